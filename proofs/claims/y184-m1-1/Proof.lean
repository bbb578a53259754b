import JvmDerived
import JvmDerived.Pilot.@@N@@Statement
import JvmDerived.Pilot.@@N@@Code
set_option linter.unusedVariables false
set_option linter.unusedSimpArgs false
@@BLOCK:NumsL.lean.txt@@
namespace Jvm.RoadKit
open Sem ClassFile Op Lib Jvm.Stand Jvm.Free Jvm.LawKit
section New
variable {p : Program} {l : Launch} {e : Env} {R : Room} {s : State} {m : MethodId} {args : Array Value} {below : List Frame} {meth : Method} {c : Code} {T : State} {locs : List Loc} {cells slots : Nat}
theorem retI (X : Stand p l e R s m args below meth c T locs cells slots) (hx : p.tables.exec = Jvm.exec) {pc : Nat} {Ls : Array Slot} {z : Int32} {rest : List Value} (hret : meth.sig.returnType = some .int) (hd : decode c.code pc = .ok (.ireturn, 1)) {fs : List Frame}
    (hl : ∀ (f : JFrame) (acts : List Action), f.method = m → f.locked = none → f.entered = [] → (doReturn e (T.setTop f) acts (some (.int z))).1 = T.setFrames fs) : Steps p.tables e below (T.setTop (mkF m pc Ls (.int z :: rest))) (T.setFrames fs) := by
  have hm' : T.vm.method? m = some meth := X.method'
  have hn : narrow .int (.int z) = .int z := rfl
  show Steps p.tables e below (T.setTop { method := m, pc := pc, locals := Ls, stack := _ :: rest, locked := none }) _
  jvm_step X.here [X.here.top, hx, hd, hm', hret, hn]
  first | (intro acts; rw [hl _ acts rfl rfl rfl]) | rw [hl _ _ rfl rfl rfl]
  exact Steps.refl _
/-- the run from U comes to an end of which Q speaks -/
def Gl (tb : Tables) (e : Env) (below : List Frame) (Q : State → Outcome → Prop) (U : State) : Prop := ∃ s₂ o, Steps tb e below U s₂ ∧ s₂.status = .running ∧ Ended s₂ below o ∧ Q s₂ o
theorem Gl.out {tb : Tables} {Q : State → Outcome → Prop} {U : State} (h : Gl tb e below Q U) : ∃ s₂ o, Steps tb e below U s₂ ∧ s₂.status = .running ∧ Ended s₂ below o ∧ Q s₂ o := h
theorem Gl.mk {tb : Tables} {Q : State → Outcome → Prop} {U : State} (h : ∃ s₂ o, Steps tb e below U s₂ ∧ s₂.status = .running ∧ Ended s₂ below o ∧ Q s₂ o) : Gl tb e below Q U := h
theorem Gl.go {tb : Tables} {Q : State → Outcome → Prop} {U V : State} (g : Gl tb e below Q V) (st : ∀ t, Steps tb e below V t → Steps tb e below U t) : Gl tb e below Q U := by
  obtain ⟨s₂, o, h1, h2⟩ := g
  exact ⟨s₂, o, st _ h1, h2⟩
theorem Gl.tr {tb : Tables} {Q : State → Outcome → Prop} {U V : State} (g : Gl tb e below Q V) (st : Steps tb e below U V) : Gl tb e below Q U := g.go fun _ k => st.trans k
/-- what a body leaves that writes and makes nothing: it returns w, the heap as it was -/
def PQ (w : Option Value) (h0 : Heap) (v : Option Value) (h : Heap) (L : List Loc) : Prop := v = w ∧ L = [] ∧ h = h0
/-- an array of ints or bytes: its length N and what it holds at j -/
def BA (Z : State) (h : Heap) (a : Addr) (ty : FieldType) (N : Int32) (f : Int32 → Int32) : Prop := ∃ cl : Cell, Arr Z h a cl ty ∧ cl.slots.size = N.toNatClampNeg ∧ ¬ N < 0 ∧ ∀ j : Int32, ¬ j < 0 → j < N → cl.slots[j.toNatClampNeg]? = some (.int (f j))
theorem BA.rdB {Z : State} {h : Heap} {a : Addr} {N j : Int32} {f : Int32 → Int32} (B : BA Z h a .byte N f) (X : Stand p l e R s m args below meth c T locs cells slots) (hx : p.tables.exec = Jvm.exec) (hZ : Z.Warmed39 s.vm) (eT : T.heap = h) (h1 : ¬ j < 0) (h2 : j < N) {g : JFrame} (hg : g.method = m) {rest : List Value} (hs : g.stack = .int j :: .ref a :: rest) (hd : decode c.code g.pc = .ok (.baload, 1)) :
    ∀ target, Steps p.tables e below (T.setTop { g with pc := g.pc + 1, stack := .int (f j) :: rest }) target → Steps p.tables e below (T.setTop g) target := by
  obtain ⟨cl, A, S, N0, H⟩ := B
  intro target k
  exact X.baloadBytes hx (j := j) (v := .int (f j)) (by rw [eT]; exact A.1) (State.isArrayOf_alike hZ.alike A.2.1) A.2.2 (inb_of S ⟨h1, h2⟩) (H j h1 h2) (g := g) hg hs hd _ k
theorem BA.rdI {Z : State} {h : Heap} {a : Addr} {N j : Int32} {f : Int32 → Int32} (B : BA Z h a .int N f) (X : Stand p l e R s m args below meth c T locs cells slots) (hx : p.tables.exec = Jvm.exec) (hZ : Z.Warmed39 s.vm) (eT : T.heap = h) (h1 : ¬ j < 0) (h2 : j < N) {g : JFrame} (hg : g.method = m) {rest : List Value} (hs : g.stack = .int j :: .ref a :: rest) (hd : decode c.code g.pc = .ok (.iaload, 1)) :
    ∀ target, Steps p.tables e below (T.setTop { g with pc := g.pc + 1, stack := .int (f j) :: rest }) target → Steps p.tables e below (T.setTop g) target := by
  obtain ⟨cl, A, S, N0, H⟩ := B
  intro target k
  exact X.iaload hx (j := j) (v := .int (f j)) (by rw [eT]; exact A.1) (State.isArrayOf_alike hZ.alike A.2.1) A.2.2 (inb_of S ⟨h1, h2⟩) (H j h1 h2) (g := g) hg hs hd _ k
theorem BA.len {Z : State} {h : Heap} {a : Addr} {N : Int32} {ty : FieldType} {f : Int32 → Int32} (B : BA Z h a ty N f) (X : Stand p l e R s m args below meth c T locs cells slots) (hx : p.tables.exec = Jvm.exec) (hZ : Z.Warmed39 s.vm) (eT : T.heap = h) {g : JFrame} (hg : g.method = m) {rest : List Value} (hs : g.stack = .ref a :: rest) (hd : decode c.code g.pc = .ok (.arraylength, 1)) :
    ∀ target, Steps p.tables e below (T.setTop { g with pc := g.pc + 1, stack := .int N :: rest }) target → Steps p.tables e below (T.setTop g) target := by
  obtain ⟨cl, A, S, N0, H⟩ := B
  intro target k
  refine X.arraylength hx (by rw [eT]; exact A.1) (State.isArrayOf_alike hZ.alike A.2.1) (g := g) hg hs hd _ ?_
  rw [len_of S N0]
  exact k
theorem Arv.rdR {Z : State} {h : Heap} {a : Addr} {k : ClassId} {N j : Int32} {ty : FieldType} {vs : List Value} {d v : Value} (V : Arv Z h a k ty N vs d) (hty : ty.isReference = true) (X : Stand p l e R s m args below meth c T locs cells slots) (hx : p.tables.exec = Jvm.exec) (hZ : Z.Warmed39 s.vm) (eT : T.heap = h) (h1 : ¬ j < 0) (h2 : j < N) (hv : vs.getD j.toNatClampNeg d = v) {g : JFrame} (hg : g.method = m) {rest : List Value} (hs : g.stack = .int j :: .ref a :: rest) (hd : decode c.code g.pc = .ok (.aaload, 1)) :
    ∀ target, Steps p.tables e below (T.setTop { g with pc := g.pc + 1, stack := v :: rest }) target → Steps p.tables e below (T.setTop g) target := by
  obtain ⟨cl, A, -, S, N0, H, -⟩ := V
  intro target k
  exact X.aaload hx (j := j) (v := v) (by rw [eT]; exact A.1) (State.isArrayOf_alike hZ.alike A.2.1) hty A.2.2 (inb_of S ⟨h1, h2⟩) (H.at (inb_of S ⟨h1, h2⟩) hv) (g := g) hg hs hd _ k
theorem BA.ext {Z : State} {h h' : Heap} {a : Addr} {N : Int32} {ty : FieldType} {f : Int32 → Int32} (B : BA Z h a ty N f) (E : Ext h h') : BA Z h' a ty N f := by
  obtain ⟨cl, A, r⟩ := B; exact ⟨cl, A.ext E, r⟩
theorem BA.other {Z : State} {h h' : Heap} {a b : Addr} {N : Int32} {ty : FieldType} {f : Int32 → Int32} {sl : Nat} {v : Value} (B : BA Z h b ty N f) (W : Wr h h' a sl v) (q : b ≠ a) : BA Z h' b ty N f := by
  obtain ⟨cl, A, r⟩ := B; exact ⟨cl, A.other W q, r⟩
theorem BA.lt {Z : State} {h : Heap} {a : Addr} {N : Int32} {ty : FieldType} {f : Int32 → Int32} (B : BA Z h a ty N f) : a < h.size := by
  obtain ⟨cl, A, r⟩ := B; exact A.lt
/-- the list of an array's values, read as a function -/
def nth (xs : List Int32) (j : Int32) : Int32 := xs.getD j.toNatClampNeg 0
theorem BA.of {Z : State} {h : Heap} {a : Addr} {k : ClassId} {N : Int32} {ty : FieldType} {d : Value} (xs : List Int32) (V : Arv Z h a k ty N (xs.map Value.int) d) (hl : N.toNatClampNeg ≤ xs.length) : BA Z h a ty N (nth xs) := by
  obtain ⟨cl, A, -, S, N0, H, -⟩ := V
  refine ⟨cl, A, S, N0, fun j h1 h2 => ?_⟩
  have h3 : j.toNatClampNeg < N.toNatClampNeg := by
    rw [Int32.lt_iff_toInt_lt] at h1 h2
    have e0 : (0 : Int32).toInt = 0 := rfl
    simp only [Int32.toNatClampNeg]; omega
  rw [H _ (by omega)]
  have h4 : j.toNatClampNeg < xs.length := by omega
  simp [nth, List.getD_eq_getElem?_getD, h4]
end New
end Jvm.RoadKit
namespace Jvm.Pilot.@@N@@
open Jvm Jvm.ClassFile Sem Op Lib Jvm.Free Jvm.Stand Jvm.LawKit Jvm.RoadKit Bundle Jvm.Pilot.@@N@@.Jvm.D
theorem own_eqv {args : Array Value} {first s : State} {o : Option Outcome} {idx : List Nat} {a b : Term} {y : Value} (h : (Cond.eq a b).value args first o s idx = some true) (hb : b.eval args first o idx s = some y) (hy : y.isRef = true ∨ ∃ z, y = .int z) : a.eval args first o idx s = some y := by
  cases ha : a.eval args first o idx s with
  | none => simp [Cond.value, ha] at h
  | some x => rcases hy with hy | ⟨z, rfl⟩ <;> cases x <;> (try cases y) <;> simp_all [Cond.value, Value.isRef]
theorem own_ref {v : Value} (h : v.isRef = true) : v = .null ∨ ∃ a, v = .ref a := ref_cases h
theorem own_nr (a : Addr) : ¬ (Value.ref a) = .null := nofun
theorem iv_lt {x a : Int32} {k : Int} (hk : a.toInt = k) (h : x < a) : x.toInt < k := hk ▸ Int32.lt_iff_toInt_lt.mp h
theorem iv_nlt {x a : Int32} {k : Int} (hk : a.toInt = k) (h : ¬ x < a) : k ≤ x.toInt := by rw [Int32.lt_iff_toInt_lt, hk] at h; omega
theorem iv_gt {x a : Int32} {k : Int} (hk : a.toInt = k) (h : a < x) : k < x.toInt := hk ▸ Int32.lt_iff_toInt_lt.mp h
theorem iv_ngt {x a : Int32} {k : Int} (hk : a.toInt = k) (h : ¬ a < x) : x.toInt ≤ k := by rw [Int32.lt_iff_toInt_lt, hk] at h; omega
theorem iv_eq {x a : Int32} {k : Int} (hk : a.toInt = k) (h : x = a) : x.toInt = k := h ▸ hk
theorem iv_ne {x a : Int32} {k : Int} (hk : a.toInt = k) (h : ¬ x = a) : x.toInt ≠ k := fun q => h (Int32.toInt_inj.mp (q.trans hk.symm))
theorem iv_lt' {x a : Int32} {k : Int} (hk : a.toInt = k) (h : x.toInt < k) : x < a := Int32.lt_iff_toInt_lt.mpr (hk ▸ h)
theorem iv_nlt' {x a : Int32} {k : Int} (hk : a.toInt = k) (h : k ≤ x.toInt) : ¬ x < a := by rw [Int32.lt_iff_toInt_lt, hk]; omega
theorem iv_gt' {x a : Int32} {k : Int} (hk : a.toInt = k) (h : k < x.toInt) : a < x := Int32.lt_iff_toInt_lt.mpr (hk ▸ h)
theorem iv_ngt' {x a : Int32} {k : Int} (hk : a.toInt = k) (h : x.toInt ≤ k) : ¬ a < x := by rw [Int32.lt_iff_toInt_lt, hk]; omega
theorem iv_eq' {x a : Int32} {k : Int} (hk : a.toInt = k) (h : x.toInt = k) : x = a := Int32.toInt_inj.mp (h.trans hk.symm)
theorem iv_neq' {x a : Int32} {k : Int} (hk : a.toInt = k) (h : x.toInt ≠ k) : ¬ x = a := fun q => h (q ▸ hk)
theorem own_succ {x : Int32} (h : x.toInt < 2147483647) : (x + 1).toInt = x.toInt + 1 := by
  have a := x.le_toInt
  exact Jvm.Kit.i32_add (by show -2 ^ 31 ≤ x.toInt + 1; omega) (by show x.toInt + 1 < 2 ^ 31; omega)
theorem own_len {u v : Int32} (h0 : 0 ≤ u.toInt) (h : u.toInt ≤ v.toInt) : u.toInt + ((v.toInt - u.toInt).toNat : Int) = v.toInt ∨ ((v.toInt - u.toInt).toNat = 0 ∧ ¬ u < v) := by
  left; omega
theorem own_nat {x : Int32} (h : 0 ≤ x.toInt) : x = Int32.ofNat x.toInt.toNat := by
  apply Int32.toInt_inj.mp
  have h2 := x.toInt_lt
  rw [Int32.toInt_ofNat_of_lt (by omega)]
  omega
theorem own_rem (x b : Int32) (hb : 0 < b.toInt) (k : Nat) (hk : b.toInt = k) : ∃ n : Nat, n < k ∧ (x &&& (2147483647 : Int32)) % b = Int32.ofNat n := by
  have h0 : (x &&& (2147483647 : Int32)).toInt = x.toInt % 2 ^ 31 := Jvm.Kit.i32_mask x 2147483647 (k := 31) (by decide) (by decide)
  have h3 : 0 ≤ (x &&& (2147483647 : Int32)).toInt := by omega
  have e : ((x &&& (2147483647 : Int32)) % b).toInt = (x &&& (2147483647 : Int32)).toInt % b.toInt := by
    rw [Int32.toInt_mod, Int.tmod_eq_emod_of_nonneg h3]
  have h1 : 0 ≤ ((x &&& (2147483647 : Int32)) % b).toInt := by rw [e]; exact Int.emod_nonneg _ (by omega)
  have h2 : ((x &&& (2147483647 : Int32)) % b).toInt < b.toInt := by rw [e]; exact Int.emod_lt_of_pos _ hb
  exact ⟨_, by omega, own_nat h1⟩
theorem d3_0 : decode method_3_code 0 = .ok (.iload_n 0, 1) := by decide +kernel
theorem d3_1 : decode method_3_code 1 = .ok (.sipush 192, 3) := by decide +kernel
theorem d3_4 : decode method_3_code 4 = .ok (.iand, 1) := by decide +kernel
theorem d3_5 : decode method_3_code 5 = .ok (.sipush 128, 3) := by decide +kernel
theorem d3_8 : decode method_3_code 8 = .ok (.if_icmp .ne 7, 3) := by decide +kernel
theorem d3_11 : decode method_3_code 11 = .ok (.iconst 1, 1) := by decide +kernel
theorem d3_12 : decode method_3_code 12 = .ok (.goto 4, 3) := by decide +kernel
theorem d3_15 : decode method_3_code 15 = .ok (.iconst 0, 1) := by decide +kernel
theorem d3_16 : decode method_3_code 16 = .ok (.ireturn, 1) := by decide +kernel
theorem pn_3 : plainName "com/example/litera/litera/Utf8SequenceEndPinLaw" = true := by first | (simp [plainName, overriddenIn]; done) | decide +kernel
def f_cont (u : Int32) : Int32 := (if (u &&& (192 : Int32)) = (128 : Int32) then (1 : Int32) else (0 : Int32))
theorem ef_rm3 (m : MethodId) (x0 : Int32) : entryFrame m #[(.int x0)] 1 = mkF m 0 #[.val (.int x0)] [] := by first | (simp [entryFrame, mkF, argsToLocals, Value.category]; done) | rfl
set_option maxRecDepth 65536 in
set_option maxHeartbeats 40000000 in
theorem rm3 (l : Launch) (Z : State) (a0 : Array Value) (hw : ∀ d ∈ tables_1, d.before a0 Z = true) (ws : List Jvm.Cond) (u : Int32)  (h0 : Heap)  :
    MetFree l (⟨"com/example/litera/litera/Utf8SequenceEndPinLaw", "isCont", "(I)Z"⟩ : MethodName) (head1 (Jvm.Cond.code (⟨"com/example/litera/litera/Utf8SequenceEndPinLaw", "isCont", "(I)Z"⟩ : MethodName) method_3_code 1 (some .boolean) :: ws) ({ frames := 0, cells := 0, slots := 0, locals := 0 } : Room)) (fun aQ U => aQ = #[(.int u)] ∧ Z.Warmed39 U.vm ∧ U.heap = h0) (fun _ _ _ _ _ => True) (fun _ U o U' => ∃ vQ LQ, o = .returned vQ ∧ PQ (some (.int (f_cont u))) h0 vQ U'.heap LQ ∧ FrameEnd U o U' LQ ({ frames := 0, cells := 0, slots := 0, locals := 0 } : Room).cells ({ frames := 0, cells := 0, slots := 0, locals := 0 } : Room).slots) := by
  refine MetFree.of_bodySF (plainFor_of_name pn_3) hisR ?_
  intro p e s m args below meth c s₁ Bd hml0 hP hK
  obtain ⟨rfl, hZ, hh⟩ := hP
  have hx := Bd.exec
  have hby := Bd.bytes
  have hml : c.maxLocals = 1 := hml0
  have hown : s.vm.findClass "com/example/litera/litera/Utf8SequenceEndPinLaw" = some m.cls := findClass_of_methodNamed Bd.named
  have hnm := (name_of_methodNamed Bd.named Bd.method).1
  have X0 : Stand p l e ({ frames := 0, cells := 0, slots := 0, locals := 0 } : Room) s m #[(.int u)] below meth c s₁ [] 0 0 := Stand.of_body Bd
  have e0 : s₁.heap = h0 := by rw [← hh, Bd.state]; rfl
  refine Gl.out ?_
  refine Gl.go ?_ (fun t k => castTop (ef_rm3 m u) k)
  show Gl _ _ _ _ (s₁.setTop (mkF m 0 #[.val (.int u)] []))
  refine Gl.go ?_ (fun t k => XS.iloadN X0.here hx rfl (hb hby d3_0) rfl k)
  show Gl _ _ _ _ (s₁.setTop (mkF m 1 #[.val (.int u)] [(.int u)]))
  refine Gl.go ?_ (fun t k => XS.sipush X0.here hx rfl (hb hby d3_1) k)
  show Gl _ _ _ _ (s₁.setTop (mkF m 4 #[.val (.int u)] [(.int (192 : Int32)), (.int u)]))
  refine Gl.go ?_ (fun t k => XS.iand X0.here hx rfl (hb hby d3_4) rfl k)
  show Gl _ _ _ _ (s₁.setTop (mkF m 5 #[.val (.int u)] [(.int (u &&& (192 : Int32)))]))
  refine Gl.go ?_ (fun t k => XS.sipush X0.here hx rfl (hb hby d3_5) k)
  show Gl _ _ _ _ (s₁.setTop (mkF m 8 #[.val (.int u)] [(.int (128 : Int32)), (.int (u &&& (192 : Int32)))]))
  by_cases hc1 : (u &&& (192 : Int32)) = (128 : Int32)
  · refine Gl.go ?_ (fun t k => XS.icmpNo X0.here hx rfl (hb hby d3_8) rfl (teq hc1).2 k)
    show Gl _ _ _ _ (s₁.setTop (mkF m 11 #[.val (.int u)] []))
    refine Gl.go ?_ (fun t k => XS.iconst X0.here hx rfl (hb hby d3_11) k)
    show Gl _ _ _ _ (s₁.setTop (mkF m 12 #[.val (.int u)] [(.int (1 : Int32))]))
    refine Gl.go ?_ (fun t k => XS.goto X0.here hx rfl (pc0 := 12) (pc' := 16) rfl (hb hby d3_12) (by decide) (by decide) k)
    show Gl _ _ _ _ (s₁.setTop (mkF m 16 #[.val (.int u)] [(.int (1 : Int32))]))
    obtain ⟨fs, hr, hrun, hended, hW, hsame⟩ := X0.leave (v := some (.int (1 : Int32))) (fun h => by rw [Bd.returns] at h; cases h) (BodyLoose.notSynchronized Bd)
    exact Gl.mk ⟨_, _, retN X0 hx (t := .boolean) Bd.returns (by simp) (hb hby d3_16) hr, hrun, hended, _, _, rfl, ⟨congrArg (fun z => some (Value.int z)) ((if_pos hc1).trans (rfl)).symm, rfl, e0⟩, ⟨_, rfl⟩, hW, hsame.mono (by decide) (by decide)⟩
  · refine Gl.go ?_ (fun t k => XS.icmpYes X0.here hx rfl (pc0 := 8) (pc' := 15) rfl (hb hby d3_8) rfl (feq hc1).2 (by decide) (by decide) k)
    show Gl _ _ _ _ (s₁.setTop (mkF m 15 #[.val (.int u)] []))
    refine Gl.go ?_ (fun t k => XS.iconst X0.here hx rfl (hb hby d3_15) k)
    show Gl _ _ _ _ (s₁.setTop (mkF m 16 #[.val (.int u)] [(.int (0 : Int32))]))
    obtain ⟨fs, hr, hrun, hended, hW, hsame⟩ := X0.leave (v := some (.int (0 : Int32))) (fun h => by rw [Bd.returns] at h; cases h) (BodyLoose.notSynchronized Bd)
    exact Gl.mk ⟨_, _, retN X0 hx (t := .boolean) Bd.returns (by simp) (hb hby d3_16) hr, hrun, hended, _, _, rfl, ⟨congrArg (fun z => some (Value.int z)) ((if_neg hc1).trans (rfl)).symm, rfl, e0⟩, ⟨_, rfl⟩, hW, hsame.mono (by decide) (by decide)⟩
theorem d2_0 : decode method_4_code 0 = .ok (.iload_n 0, 1) := by decide +kernel
theorem d2_1 : decode method_4_code 1 = .ok (.sipush 224, 3) := by decide +kernel
theorem d2_4 : decode method_4_code 4 = .ok (.iand, 1) := by decide +kernel
theorem d2_5 : decode method_4_code 5 = .ok (.sipush 192, 3) := by decide +kernel
theorem d2_8 : decode method_4_code 8 = .ok (.if_icmp .ne 28, 3) := by decide +kernel
theorem d2_11 : decode method_4_code 11 = .ok (.iconst 2, 1) := by decide +kernel
theorem d2_12 : decode method_4_code 12 = .ok (.istore 6, 2) := by decide +kernel
theorem d2_14 : decode method_4_code 14 = .ok (.iload_n 0, 1) := by decide +kernel
theorem d2_15 : decode method_4_code 15 = .ok (.bipush 31, 2) := by decide +kernel
theorem d2_17 : decode method_4_code 17 = .ok (.iand, 1) := by decide +kernel
theorem d2_18 : decode method_4_code 18 = .ok (.bipush 6, 2) := by decide +kernel
theorem d2_20 : decode method_4_code 20 = .ok (.ishl, 1) := by decide +kernel
theorem d2_21 : decode method_4_code 21 = .ok (.iload_n 1, 1) := by decide +kernel
theorem d2_22 : decode method_4_code 22 = .ok (.bipush 63, 2) := by decide +kernel
theorem d2_24 : decode method_4_code 24 = .ok (.iand, 1) := by decide +kernel
theorem d2_25 : decode method_4_code 25 = .ok (.ior, 1) := by decide +kernel
theorem d2_26 : decode method_4_code 26 = .ok (.istore 7, 2) := by decide +kernel
theorem d2_28 : decode method_4_code 28 = .ok (.sipush 128, 3) := by decide +kernel
theorem d2_31 : decode method_4_code 31 = .ok (.istore 8, 2) := by decide +kernel
theorem d2_33 : decode method_4_code 33 = .ok (.goto 100, 3) := by decide +kernel
theorem d2_36 : decode method_4_code 36 = .ok (.iload_n 0, 1) := by decide +kernel
theorem d2_37 : decode method_4_code 37 = .ok (.sipush 240, 3) := by decide +kernel
theorem d2_40 : decode method_4_code 40 = .ok (.iand, 1) := by decide +kernel
theorem d2_41 : decode method_4_code 41 = .ok (.sipush 224, 3) := by decide +kernel
theorem d2_44 : decode method_4_code 44 = .ok (.if_icmp .ne 36, 3) := by decide +kernel
theorem d2_47 : decode method_4_code 47 = .ok (.iconst 3, 1) := by decide +kernel
theorem d2_48 : decode method_4_code 48 = .ok (.istore 6, 2) := by decide +kernel
theorem d2_50 : decode method_4_code 50 = .ok (.iload_n 0, 1) := by decide +kernel
theorem d2_51 : decode method_4_code 51 = .ok (.bipush 15, 2) := by decide +kernel
theorem d2_53 : decode method_4_code 53 = .ok (.iand, 1) := by decide +kernel
theorem d2_54 : decode method_4_code 54 = .ok (.bipush 12, 2) := by decide +kernel
theorem d2_56 : decode method_4_code 56 = .ok (.ishl, 1) := by decide +kernel
theorem d2_57 : decode method_4_code 57 = .ok (.iload_n 1, 1) := by decide +kernel
theorem d2_58 : decode method_4_code 58 = .ok (.bipush 63, 2) := by decide +kernel
theorem d2_60 : decode method_4_code 60 = .ok (.iand, 1) := by decide +kernel
theorem d2_61 : decode method_4_code 61 = .ok (.bipush 6, 2) := by decide +kernel
theorem d2_63 : decode method_4_code 63 = .ok (.ishl, 1) := by decide +kernel
theorem d2_64 : decode method_4_code 64 = .ok (.ior, 1) := by decide +kernel
theorem d2_65 : decode method_4_code 65 = .ok (.iload_n 2, 1) := by decide +kernel
theorem d2_66 : decode method_4_code 66 = .ok (.bipush 63, 2) := by decide +kernel
theorem d2_68 : decode method_4_code 68 = .ok (.iand, 1) := by decide +kernel
theorem d2_69 : decode method_4_code 69 = .ok (.ior, 1) := by decide +kernel
theorem d2_70 : decode method_4_code 70 = .ok (.istore 7, 2) := by decide +kernel
theorem d2_72 : decode method_4_code 72 = .ok (.sipush 2048, 3) := by decide +kernel
theorem d2_75 : decode method_4_code 75 = .ok (.istore 8, 2) := by decide +kernel
theorem d2_77 : decode method_4_code 77 = .ok (.goto 56, 3) := by decide +kernel
theorem d2_80 : decode method_4_code 80 = .ok (.iload_n 0, 1) := by decide +kernel
theorem d2_81 : decode method_4_code 81 = .ok (.sipush 248, 3) := by decide +kernel
theorem d2_84 : decode method_4_code 84 = .ok (.iand, 1) := by decide +kernel
theorem d2_85 : decode method_4_code 85 = .ok (.sipush 240, 3) := by decide +kernel
theorem d2_88 : decode method_4_code 88 = .ok (.if_icmp .ne 43, 3) := by decide +kernel
theorem d2_91 : decode method_4_code 91 = .ok (.iconst 4, 1) := by decide +kernel
theorem d2_92 : decode method_4_code 92 = .ok (.istore 6, 2) := by decide +kernel
theorem d2_94 : decode method_4_code 94 = .ok (.iload_n 0, 1) := by decide +kernel
theorem d2_95 : decode method_4_code 95 = .ok (.bipush 7, 2) := by decide +kernel
theorem d2_97 : decode method_4_code 97 = .ok (.iand, 1) := by decide +kernel
theorem d2_98 : decode method_4_code 98 = .ok (.bipush 18, 2) := by decide +kernel
theorem d2_100 : decode method_4_code 100 = .ok (.ishl, 1) := by decide +kernel
theorem d2_101 : decode method_4_code 101 = .ok (.iload_n 1, 1) := by decide +kernel
theorem d2_102 : decode method_4_code 102 = .ok (.bipush 63, 2) := by decide +kernel
theorem d2_104 : decode method_4_code 104 = .ok (.iand, 1) := by decide +kernel
theorem d2_105 : decode method_4_code 105 = .ok (.bipush 12, 2) := by decide +kernel
theorem d2_107 : decode method_4_code 107 = .ok (.ishl, 1) := by decide +kernel
theorem d2_108 : decode method_4_code 108 = .ok (.ior, 1) := by decide +kernel
theorem d2_109 : decode method_4_code 109 = .ok (.iload_n 2, 1) := by decide +kernel
theorem d2_110 : decode method_4_code 110 = .ok (.bipush 63, 2) := by decide +kernel
theorem d2_112 : decode method_4_code 112 = .ok (.iand, 1) := by decide +kernel
theorem d2_113 : decode method_4_code 113 = .ok (.bipush 6, 2) := by decide +kernel
theorem d2_115 : decode method_4_code 115 = .ok (.ishl, 1) := by decide +kernel
theorem d2_116 : decode method_4_code 116 = .ok (.ior, 1) := by decide +kernel
theorem d2_117 : decode method_4_code 117 = .ok (.iload_n 3, 1) := by decide +kernel
theorem d2_118 : decode method_4_code 118 = .ok (.bipush 63, 2) := by decide +kernel
theorem d2_120 : decode method_4_code 120 = .ok (.iand, 1) := by decide +kernel
theorem d2_121 : decode method_4_code 121 = .ok (.ior, 1) := by decide +kernel
theorem d2_122 : decode method_4_code 122 = .ok (.istore 7, 2) := by decide +kernel
theorem d2_124 : decode method_4_code 124 = .ok (.ldc 20, 2) := by decide +kernel
theorem d2_126 : decode method_4_code 126 = .ok (.istore 8, 2) := by decide +kernel
theorem d2_128 : decode method_4_code 128 = .ok (.goto 5, 3) := by decide +kernel
theorem d2_131 : decode method_4_code 131 = .ok (.iconst (-1), 1) := by decide +kernel
theorem d2_132 : decode method_4_code 132 = .ok (.ireturn, 1) := by decide +kernel
theorem d2_133 : decode method_4_code 133 = .ok (.iload 5, 2) := by decide +kernel
theorem d2_135 : decode method_4_code 135 = .ok (.iload 4, 2) := by decide +kernel
theorem d2_137 : decode method_4_code 137 = .ok (.isub, 1) := by decide +kernel
theorem d2_138 : decode method_4_code 138 = .ok (.iload 6, 2) := by decide +kernel
theorem d2_140 : decode method_4_code 140 = .ok (.if_icmp .ge 5, 3) := by decide +kernel
theorem d2_143 : decode method_4_code 143 = .ok (.iconst (-1), 1) := by decide +kernel
theorem d2_144 : decode method_4_code 144 = .ok (.ireturn, 1) := by decide +kernel
theorem d2_145 : decode method_4_code 145 = .ok (.iload_n 1, 1) := by decide +kernel
theorem d2_146 : decode method_4_code 146 = .ok (.invokestatic 21, 3) := by decide +kernel
theorem d2_149 : decode method_4_code 149 = .ok (.ifCond .ne 5, 3) := by decide +kernel
theorem d2_152 : decode method_4_code 152 = .ok (.iconst (-1), 1) := by decide +kernel
theorem d2_153 : decode method_4_code 153 = .ok (.ireturn, 1) := by decide +kernel
theorem d2_154 : decode method_4_code 154 = .ok (.iload 6, 2) := by decide +kernel
theorem d2_156 : decode method_4_code 156 = .ok (.iconst 3, 1) := by decide +kernel
theorem d2_157 : decode method_4_code 157 = .ok (.if_icmp .lt 12, 3) := by decide +kernel
theorem d2_160 : decode method_4_code 160 = .ok (.iload_n 2, 1) := by decide +kernel
theorem d2_161 : decode method_4_code 161 = .ok (.invokestatic 21, 3) := by decide +kernel
theorem d2_164 : decode method_4_code 164 = .ok (.ifCond .ne 5, 3) := by decide +kernel
theorem d2_167 : decode method_4_code 167 = .ok (.iconst (-1), 1) := by decide +kernel
theorem d2_168 : decode method_4_code 168 = .ok (.ireturn, 1) := by decide +kernel
theorem d2_169 : decode method_4_code 169 = .ok (.iload 6, 2) := by decide +kernel
theorem d2_171 : decode method_4_code 171 = .ok (.iconst 4, 1) := by decide +kernel
theorem d2_172 : decode method_4_code 172 = .ok (.if_icmp .ne 12, 3) := by decide +kernel
theorem d2_175 : decode method_4_code 175 = .ok (.iload_n 3, 1) := by decide +kernel
theorem d2_176 : decode method_4_code 176 = .ok (.invokestatic 21, 3) := by decide +kernel
theorem d2_179 : decode method_4_code 179 = .ok (.ifCond .ne 5, 3) := by decide +kernel
theorem d2_182 : decode method_4_code 182 = .ok (.iconst (-1), 1) := by decide +kernel
theorem d2_183 : decode method_4_code 183 = .ok (.ireturn, 1) := by decide +kernel
theorem d2_184 : decode method_4_code 184 = .ok (.iload 7, 2) := by decide +kernel
theorem d2_186 : decode method_4_code 186 = .ok (.iload 8, 2) := by decide +kernel
theorem d2_188 : decode method_4_code 188 = .ok (.if_icmp .lt 10, 3) := by decide +kernel
theorem d2_191 : decode method_4_code 191 = .ok (.iload 7, 2) := by decide +kernel
theorem d2_193 : decode method_4_code 193 = .ok (.ldc 25, 2) := by decide +kernel
theorem d2_195 : decode method_4_code 195 = .ok (.if_icmp .le 5, 3) := by decide +kernel
theorem d2_198 : decode method_4_code 198 = .ok (.iconst (-1), 1) := by decide +kernel
theorem d2_199 : decode method_4_code 199 = .ok (.ireturn, 1) := by decide +kernel
theorem d2_200 : decode method_4_code 200 = .ok (.iload 7, 2) := by decide +kernel
theorem d2_202 : decode method_4_code 202 = .ok (.ldc 26, 2) := by decide +kernel
theorem d2_204 : decode method_4_code 204 = .ok (.if_icmp .lt 12, 3) := by decide +kernel
theorem d2_207 : decode method_4_code 207 = .ok (.iload 7, 2) := by decide +kernel
theorem d2_209 : decode method_4_code 209 = .ok (.ldc 27, 2) := by decide +kernel
theorem d2_211 : decode method_4_code 211 = .ok (.if_icmp .gt 5, 3) := by decide +kernel
theorem d2_214 : decode method_4_code 214 = .ok (.iconst (-1), 1) := by decide +kernel
theorem d2_215 : decode method_4_code 215 = .ok (.ireturn, 1) := by decide +kernel
theorem d2_216 : decode method_4_code 216 = .ok (.iload 4, 2) := by decide +kernel
theorem d2_218 : decode method_4_code 218 = .ok (.iload 6, 2) := by decide +kernel
theorem d2_220 : decode method_4_code 220 = .ok (.iadd, 1) := by decide +kernel
theorem d2_221 : decode method_4_code 221 = .ok (.ireturn, 1) := by decide +kernel
theorem pn_2 : plainName "com/example/litera/litera/Utf8SequenceEndPinLaw" = true := by first | (simp [plainName, overriddenIn]; done) | decide +kernel
theorem pd_0 : parseMethodDescriptor "(I)Z" = some ⟨[.int], some .boolean⟩ := by decide +kernel
def f_exp (u0 u1 u2 u3 i to : Int32) : Int32 := (if (u0 &&& (224 : Int32)) = (192 : Int32) then (if (to - i) < (2 : Int32) then (-1 : Int32) else (if (f_cont u1) = (0 : Int32) then (-1 : Int32) else (if (((u0 &&& (31 : Int32)) <<< ((6 : Int32) &&& 31)) ||| (u1 &&& (63 : Int32))) < (128 : Int32) then (-1 : Int32) else (if (1114111 : Int32) < (((u0 &&& (31 : Int32)) <<< ((6 : Int32) &&& 31)) ||| (u1 &&& (63 : Int32))) then (-1 : Int32) else (if (((u0 &&& (31 : Int32)) <<< ((6 : Int32) &&& 31)) ||| (u1 &&& (63 : Int32))) < (55296 : Int32) then (i + (2 : Int32)) else (if (57343 : Int32) < (((u0 &&& (31 : Int32)) <<< ((6 : Int32) &&& 31)) ||| (u1 &&& (63 : Int32))) then (i + (2 : Int32)) else (-1 : Int32))))))) else (if (u0 &&& (240 : Int32)) = (224 : Int32) then (if (to - i) < (3 : Int32) then (-1 : Int32) else (if (f_cont u1) = (0 : Int32) then (-1 : Int32) else (if (f_cont u2) = (0 : Int32) then (-1 : Int32) else (if ((((u0 &&& (15 : Int32)) <<< ((12 : Int32) &&& 31)) ||| ((u1 &&& (63 : Int32)) <<< ((6 : Int32) &&& 31))) ||| (u2 &&& (63 : Int32))) < (2048 : Int32) then (-1 : Int32) else (if (1114111 : Int32) < ((((u0 &&& (15 : Int32)) <<< ((12 : Int32) &&& 31)) ||| ((u1 &&& (63 : Int32)) <<< ((6 : Int32) &&& 31))) ||| (u2 &&& (63 : Int32))) then (-1 : Int32) else (if ((((u0 &&& (15 : Int32)) <<< ((12 : Int32) &&& 31)) ||| ((u1 &&& (63 : Int32)) <<< ((6 : Int32) &&& 31))) ||| (u2 &&& (63 : Int32))) < (55296 : Int32) then (i + (3 : Int32)) else (if (57343 : Int32) < ((((u0 &&& (15 : Int32)) <<< ((12 : Int32) &&& 31)) ||| ((u1 &&& (63 : Int32)) <<< ((6 : Int32) &&& 31))) ||| (u2 &&& (63 : Int32))) then (i + (3 : Int32)) else (-1 : Int32)))))))) else (if (u0 &&& (248 : Int32)) = (240 : Int32) then (if (to - i) < (4 : Int32) then (-1 : Int32) else (if (f_cont u1) = (0 : Int32) then (-1 : Int32) else (if (f_cont u2) = (0 : Int32) then (-1 : Int32) else (if (f_cont u3) = (0 : Int32) then (-1 : Int32) else (if (((((u0 &&& (7 : Int32)) <<< ((18 : Int32) &&& 31)) ||| ((u1 &&& (63 : Int32)) <<< ((12 : Int32) &&& 31))) ||| ((u2 &&& (63 : Int32)) <<< ((6 : Int32) &&& 31))) ||| (u3 &&& (63 : Int32))) < (65536 : Int32) then (-1 : Int32) else (if (1114111 : Int32) < (((((u0 &&& (7 : Int32)) <<< ((18 : Int32) &&& 31)) ||| ((u1 &&& (63 : Int32)) <<< ((12 : Int32) &&& 31))) ||| ((u2 &&& (63 : Int32)) <<< ((6 : Int32) &&& 31))) ||| (u3 &&& (63 : Int32))) then (-1 : Int32) else (i + (4 : Int32)))))))) else (-1 : Int32))))
theorem ef_rm2 (m : MethodId) (x0 : Int32) (x1 : Int32) (x2 : Int32) (x3 : Int32) (x4 : Int32) (x5 : Int32) : entryFrame m #[(.int x0), (.int x1), (.int x2), (.int x3), (.int x4), (.int x5)] 9 = mkF m 0 #[.val (.int x0), .val (.int x1), .val (.int x2), .val (.int x3), .val (.int x4), .val (.int x5), .unset, .unset, .unset] [] := by first | (simp [entryFrame, mkF, argsToLocals, Value.category]; done) | rfl
set_option maxRecDepth 65536 in
set_option maxHeartbeats 40000000 in
theorem rm2 (l : Launch) (Z : State) (a0 : Array Value) (hw : ∀ d ∈ tables_1, d.before a0 Z = true) (ws : List Jvm.Cond) (u0 : Int32) (u1 : Int32) (u2 : Int32) (u3 : Int32) (i : Int32) (to : Int32)  (h0 : Heap)  :
    MetFree l (⟨"com/example/litera/litera/Utf8SequenceEndPinLaw", "expected", "(IIIIII)I"⟩ : MethodName) (head1 (Jvm.Cond.code (⟨"com/example/litera/litera/Utf8SequenceEndPinLaw", "expected", "(IIIIII)I"⟩ : MethodName) method_4_code 9 (some .int) :: ws) ({ frames := 1, cells := 0, slots := 0, locals := 12 } : Room)) (fun aQ U => aQ = #[(.int u0), (.int u1), (.int u2), (.int u3), (.int i), (.int to)] ∧ Z.Warmed39 U.vm ∧ U.heap = h0) (fun _ _ _ _ _ => True) (fun _ U o U' => ∃ vQ LQ, o = .returned vQ ∧ PQ (some (.int (f_exp u0 u1 u2 u3 i to))) h0 vQ U'.heap LQ ∧ FrameEnd U o U' LQ ({ frames := 1, cells := 0, slots := 0, locals := 12 } : Room).cells ({ frames := 1, cells := 0, slots := 0, locals := 12 } : Room).slots) := by
  refine MetFree.of_bodySF (plainFor_of_name pn_2) hisR ?_
  intro p e s m args below meth c s₁ Bd hml0 hP hK
  obtain ⟨rfl, hZ, hh⟩ := hP
  have hx := Bd.exec
  have hby := Bd.bytes
  have hml : c.maxLocals = 9 := hml0
  have hown : s.vm.findClass "com/example/litera/litera/Utf8SequenceEndPinLaw" = some m.cls := findClass_of_methodNamed Bd.named
  have hnm := (name_of_methodNamed Bd.named Bd.method).1
  have X0 : Stand p l e ({ frames := 1, cells := 0, slots := 0, locals := 12 } : Room) s m #[(.int u0), (.int u1), (.int u2), (.int u3), (.int i), (.int to)] below meth c s₁ [] 0 0 := Stand.of_body Bd
  have e0 : s₁.heap = h0 := by rw [← hh, Bd.state]; rfl
  refine Gl.out ?_
  refine Gl.go ?_ (fun t k => castTop (ef_rm2 m u0 u1 u2 u3 i to) k)
  show Gl _ _ _ _ (s₁.setTop (mkF m 0 #[.val (.int u0), .val (.int u1), .val (.int u2), .val (.int u3), .val (.int i), .val (.int to), .unset, .unset, .unset] []))
  refine Gl.go ?_ (fun t k => XS.iloadN X0.here hx rfl (hb hby d2_0) rfl k)
  show Gl _ _ _ _ (s₁.setTop (mkF m 1 #[.val (.int u0), .val (.int u1), .val (.int u2), .val (.int u3), .val (.int i), .val (.int to), .unset, .unset, .unset] [(.int u0)]))
  refine Gl.go ?_ (fun t k => XS.sipush X0.here hx rfl (hb hby d2_1) k)
  show Gl _ _ _ _ (s₁.setTop (mkF m 4 #[.val (.int u0), .val (.int u1), .val (.int u2), .val (.int u3), .val (.int i), .val (.int to), .unset, .unset, .unset] [(.int (224 : Int32)), (.int u0)]))
  refine Gl.go ?_ (fun t k => XS.iand X0.here hx rfl (hb hby d2_4) rfl k)
  show Gl _ _ _ _ (s₁.setTop (mkF m 5 #[.val (.int u0), .val (.int u1), .val (.int u2), .val (.int u3), .val (.int i), .val (.int to), .unset, .unset, .unset] [(.int (u0 &&& (224 : Int32)))]))
  refine Gl.go ?_ (fun t k => XS.sipush X0.here hx rfl (hb hby d2_5) k)
  show Gl _ _ _ _ (s₁.setTop (mkF m 8 #[.val (.int u0), .val (.int u1), .val (.int u2), .val (.int u3), .val (.int i), .val (.int to), .unset, .unset, .unset] [(.int (192 : Int32)), (.int (u0 &&& (224 : Int32)))]))
  by_cases hc2 : (u0 &&& (224 : Int32)) = (192 : Int32)
  · refine Gl.go ?_ (fun t k => XS.icmpNo X0.here hx rfl (hb hby d2_8) rfl (teq hc2).2 k)
    show Gl _ _ _ _ (s₁.setTop (mkF m 11 #[.val (.int u0), .val (.int u1), .val (.int u2), .val (.int u3), .val (.int i), .val (.int to), .unset, .unset, .unset] []))
    refine Gl.go ?_ (fun t k => XS.iconst X0.here hx rfl (hb hby d2_11) k)
    show Gl _ _ _ _ (s₁.setTop (mkF m 12 #[.val (.int u0), .val (.int u1), .val (.int u2), .val (.int u3), .val (.int i), .val (.int to), .unset, .unset, .unset] [(.int (2 : Int32))]))
    refine Gl.go ?_ (fun t k => XS.istore X0.here hx rfl (hb hby d2_12) rfl (l' := #[.val (.int u0), .val (.int u1), .val (.int u2), .val (.int u3), .val (.int i), .val (.int to), .val (.int (2 : Int32)), .unset, .unset]) rfl k)
    show Gl _ _ _ _ (s₁.setTop (mkF m 14 #[.val (.int u0), .val (.int u1), .val (.int u2), .val (.int u3), .val (.int i), .val (.int to), .val (.int (2 : Int32)), .unset, .unset] []))
    refine Gl.go ?_ (fun t k => XS.iloadN X0.here hx rfl (hb hby d2_14) rfl k)
    show Gl _ _ _ _ (s₁.setTop (mkF m 15 #[.val (.int u0), .val (.int u1), .val (.int u2), .val (.int u3), .val (.int i), .val (.int to), .val (.int (2 : Int32)), .unset, .unset] [(.int u0)]))
    refine Gl.go ?_ (fun t k => XS.bipush X0.here hx rfl (hb hby d2_15) k)
    show Gl _ _ _ _ (s₁.setTop (mkF m 17 #[.val (.int u0), .val (.int u1), .val (.int u2), .val (.int u3), .val (.int i), .val (.int to), .val (.int (2 : Int32)), .unset, .unset] [(.int (31 : Int32)), (.int u0)]))
    refine Gl.go ?_ (fun t k => XS.iand X0.here hx rfl (hb hby d2_17) rfl k)
    show Gl _ _ _ _ (s₁.setTop (mkF m 18 #[.val (.int u0), .val (.int u1), .val (.int u2), .val (.int u3), .val (.int i), .val (.int to), .val (.int (2 : Int32)), .unset, .unset] [(.int (u0 &&& (31 : Int32)))]))
    refine Gl.go ?_ (fun t k => XS.bipush X0.here hx rfl (hb hby d2_18) k)
    show Gl _ _ _ _ (s₁.setTop (mkF m 20 #[.val (.int u0), .val (.int u1), .val (.int u2), .val (.int u3), .val (.int i), .val (.int to), .val (.int (2 : Int32)), .unset, .unset] [(.int (6 : Int32)), (.int (u0 &&& (31 : Int32)))]))
    refine Gl.go ?_ (fun t k => XS.ishl X0.here hx rfl (hb hby d2_20) rfl k)
    show Gl _ _ _ _ (s₁.setTop (mkF m 21 #[.val (.int u0), .val (.int u1), .val (.int u2), .val (.int u3), .val (.int i), .val (.int to), .val (.int (2 : Int32)), .unset, .unset] [(.int ((u0 &&& (31 : Int32)) <<< ((6 : Int32) &&& 31)))]))
    refine Gl.go ?_ (fun t k => XS.iloadN X0.here hx rfl (hb hby d2_21) rfl k)
    show Gl _ _ _ _ (s₁.setTop (mkF m 22 #[.val (.int u0), .val (.int u1), .val (.int u2), .val (.int u3), .val (.int i), .val (.int to), .val (.int (2 : Int32)), .unset, .unset] [(.int u1), (.int ((u0 &&& (31 : Int32)) <<< ((6 : Int32) &&& 31)))]))
    refine Gl.go ?_ (fun t k => XS.bipush X0.here hx rfl (hb hby d2_22) k)
    show Gl _ _ _ _ (s₁.setTop (mkF m 24 #[.val (.int u0), .val (.int u1), .val (.int u2), .val (.int u3), .val (.int i), .val (.int to), .val (.int (2 : Int32)), .unset, .unset] [(.int (63 : Int32)), (.int u1), (.int ((u0 &&& (31 : Int32)) <<< ((6 : Int32) &&& 31)))]))
    refine Gl.go ?_ (fun t k => XS.iand X0.here hx rfl (hb hby d2_24) rfl k)
    show Gl _ _ _ _ (s₁.setTop (mkF m 25 #[.val (.int u0), .val (.int u1), .val (.int u2), .val (.int u3), .val (.int i), .val (.int to), .val (.int (2 : Int32)), .unset, .unset] [(.int (u1 &&& (63 : Int32))), (.int ((u0 &&& (31 : Int32)) <<< ((6 : Int32) &&& 31)))]))
    refine Gl.go ?_ (fun t k => XS.ior X0.here hx rfl (hb hby d2_25) rfl k)
    show Gl _ _ _ _ (s₁.setTop (mkF m 26 #[.val (.int u0), .val (.int u1), .val (.int u2), .val (.int u3), .val (.int i), .val (.int to), .val (.int (2 : Int32)), .unset, .unset] [(.int (((u0 &&& (31 : Int32)) <<< ((6 : Int32) &&& 31)) ||| (u1 &&& (63 : Int32))))]))
    refine Gl.go ?_ (fun t k => XS.istore X0.here hx rfl (hb hby d2_26) rfl (l' := #[.val (.int u0), .val (.int u1), .val (.int u2), .val (.int u3), .val (.int i), .val (.int to), .val (.int (2 : Int32)), .val (.int (((u0 &&& (31 : Int32)) <<< ((6 : Int32) &&& 31)) ||| (u1 &&& (63 : Int32)))), .unset]) rfl k)
    show Gl _ _ _ _ (s₁.setTop (mkF m 28 #[.val (.int u0), .val (.int u1), .val (.int u2), .val (.int u3), .val (.int i), .val (.int to), .val (.int (2 : Int32)), .val (.int (((u0 &&& (31 : Int32)) <<< ((6 : Int32) &&& 31)) ||| (u1 &&& (63 : Int32)))), .unset] []))
    refine Gl.go ?_ (fun t k => XS.sipush X0.here hx rfl (hb hby d2_28) k)
    show Gl _ _ _ _ (s₁.setTop (mkF m 31 #[.val (.int u0), .val (.int u1), .val (.int u2), .val (.int u3), .val (.int i), .val (.int to), .val (.int (2 : Int32)), .val (.int (((u0 &&& (31 : Int32)) <<< ((6 : Int32) &&& 31)) ||| (u1 &&& (63 : Int32)))), .unset] [(.int (128 : Int32))]))
    refine Gl.go ?_ (fun t k => XS.istore X0.here hx rfl (hb hby d2_31) rfl (l' := #[.val (.int u0), .val (.int u1), .val (.int u2), .val (.int u3), .val (.int i), .val (.int to), .val (.int (2 : Int32)), .val (.int (((u0 &&& (31 : Int32)) <<< ((6 : Int32) &&& 31)) ||| (u1 &&& (63 : Int32)))), .val (.int (128 : Int32))]) rfl k)
    show Gl _ _ _ _ (s₁.setTop (mkF m 33 #[.val (.int u0), .val (.int u1), .val (.int u2), .val (.int u3), .val (.int i), .val (.int to), .val (.int (2 : Int32)), .val (.int (((u0 &&& (31 : Int32)) <<< ((6 : Int32) &&& 31)) ||| (u1 &&& (63 : Int32)))), .val (.int (128 : Int32))] []))
    refine Gl.go ?_ (fun t k => XS.goto X0.here hx rfl (pc0 := 33) (pc' := 133) rfl (hb hby d2_33) (by decide) (by decide) k)
    show Gl _ _ _ _ (s₁.setTop (mkF m 133 #[.val (.int u0), .val (.int u1), .val (.int u2), .val (.int u3), .val (.int i), .val (.int to), .val (.int (2 : Int32)), .val (.int (((u0 &&& (31 : Int32)) <<< ((6 : Int32) &&& 31)) ||| (u1 &&& (63 : Int32)))), .val (.int (128 : Int32))] []))
    refine Gl.go ?_ (fun t k => XS.iload X0.here hx rfl (hb hby d2_133) rfl k)
    show Gl _ _ _ _ (s₁.setTop (mkF m 135 #[.val (.int u0), .val (.int u1), .val (.int u2), .val (.int u3), .val (.int i), .val (.int to), .val (.int (2 : Int32)), .val (.int (((u0 &&& (31 : Int32)) <<< ((6 : Int32) &&& 31)) ||| (u1 &&& (63 : Int32)))), .val (.int (128 : Int32))] [(.int to)]))
    refine Gl.go ?_ (fun t k => XS.iload X0.here hx rfl (hb hby d2_135) rfl k)
    show Gl _ _ _ _ (s₁.setTop (mkF m 137 #[.val (.int u0), .val (.int u1), .val (.int u2), .val (.int u3), .val (.int i), .val (.int to), .val (.int (2 : Int32)), .val (.int (((u0 &&& (31 : Int32)) <<< ((6 : Int32) &&& 31)) ||| (u1 &&& (63 : Int32)))), .val (.int (128 : Int32))] [(.int i), (.int to)]))
    refine Gl.go ?_ (fun t k => XS.isub X0.here hx rfl (hb hby d2_137) rfl k)
    show Gl _ _ _ _ (s₁.setTop (mkF m 138 #[.val (.int u0), .val (.int u1), .val (.int u2), .val (.int u3), .val (.int i), .val (.int to), .val (.int (2 : Int32)), .val (.int (((u0 &&& (31 : Int32)) <<< ((6 : Int32) &&& 31)) ||| (u1 &&& (63 : Int32)))), .val (.int (128 : Int32))] [(.int (to - i))]))
    refine Gl.go ?_ (fun t k => XS.iload X0.here hx rfl (hb hby d2_138) rfl k)
    show Gl _ _ _ _ (s₁.setTop (mkF m 140 #[.val (.int u0), .val (.int u1), .val (.int u2), .val (.int u3), .val (.int i), .val (.int to), .val (.int (2 : Int32)), .val (.int (((u0 &&& (31 : Int32)) <<< ((6 : Int32) &&& 31)) ||| (u1 &&& (63 : Int32)))), .val (.int (128 : Int32))] [(.int (2 : Int32)), (.int (to - i))]))
    by_cases hc3 : (to - i) < (2 : Int32)
    · refine Gl.go ?_ (fun t k => XS.icmpNo X0.here hx rfl (hb hby d2_140) rfl (tlt hc3).2.1 k)
      show Gl _ _ _ _ (s₁.setTop (mkF m 143 #[.val (.int u0), .val (.int u1), .val (.int u2), .val (.int u3), .val (.int i), .val (.int to), .val (.int (2 : Int32)), .val (.int (((u0 &&& (31 : Int32)) <<< ((6 : Int32) &&& 31)) ||| (u1 &&& (63 : Int32)))), .val (.int (128 : Int32))] []))
      refine Gl.go ?_ (fun t k => XS.iconst X0.here hx rfl (hb hby d2_143) k)
      show Gl _ _ _ _ (s₁.setTop (mkF m 144 #[.val (.int u0), .val (.int u1), .val (.int u2), .val (.int u3), .val (.int i), .val (.int to), .val (.int (2 : Int32)), .val (.int (((u0 &&& (31 : Int32)) <<< ((6 : Int32) &&& 31)) ||| (u1 &&& (63 : Int32)))), .val (.int (128 : Int32))] [(.int (-1 : Int32))]))
      obtain ⟨fs, hr, hrun, hended, hW, hsame⟩ := X0.leave (v := some (.int (-1 : Int32))) (fun h => by rw [Bd.returns] at h; cases h) (BodyLoose.notSynchronized Bd)
      exact Gl.mk ⟨_, _, retI X0 hx Bd.returns (hb hby d2_144) hr, hrun, hended, _, _, rfl, ⟨congrArg (fun z => some (Value.int z)) ((if_pos hc2).trans ((if_pos hc3).trans (rfl))).symm, rfl, e0⟩, ⟨_, rfl⟩, hW, hsame.mono (by decide) (by decide)⟩
    · refine Gl.go ?_ (fun t k => XS.icmpYes X0.here hx rfl (pc0 := 140) (pc' := 145) rfl (hb hby d2_140) rfl (flt hc3).2.1 (by decide) (by decide) k)
      show Gl _ _ _ _ (s₁.setTop (mkF m 145 #[.val (.int u0), .val (.int u1), .val (.int u2), .val (.int u3), .val (.int i), .val (.int to), .val (.int (2 : Int32)), .val (.int (((u0 &&& (31 : Int32)) <<< ((6 : Int32) &&& 31)) ||| (u1 &&& (63 : Int32)))), .val (.int (128 : Int32))] []))
      refine Gl.go ?_ (fun t k => XS.iloadN X0.here hx rfl (hb hby d2_145) rfl k)
      show Gl _ _ _ _ (s₁.setTop (mkF m 146 #[.val (.int u0), .val (.int u1), .val (.int u2), .val (.int u3), .val (.int i), .val (.int to), .val (.int (2 : Int32)), .val (.int (((u0 &&& (31 : Int32)) <<< ((6 : Int32) &&& 31)) ||| (u1 &&& (63 : Int32)))), .val (.int (128 : Int32))] [(.int u1)]))
      obtain ⟨_, _, ⟨T4, L4, k4, n4⟩, -, X4, ⟨Lc4, hQ4, l4, y4, z4⟩, st4⟩ := Jvm.LawKit.callS X0 hx (y := (⟨"com/example/litera/litera/Utf8SequenceEndPinLaw", "isCont", "(I)Z"⟩ : MethodName)) hown (mvT hZ (hw _ (List.mem_of_getElem? (i := 10) rfl))) (mvT hZ (hw _ (List.mem_of_getElem? (i := 11) rfl))) (mvT hZ (hw _ (List.mem_of_getElem? (i := 8) rfl))) (mvT hZ (hw _ (List.mem_of_getElem? (i := 12) rfl))) (by decide) (backOf (W := 0) (rm3 l Z a0 hw [] u1 h0) hZ (hw _ (List.mem_of_getElem? (i := 12) rfl)) (hw _ (List.mem_of_getElem? (i := 8) rfl)) (by decide) (by decide)) (g := (mkF m 146 #[.val (.int u0), .val (.int u1), .val (.int u2), .val (.int u3), .val (.int i), .val (.int to), .val (.int (2 : Int32)), .val (.int (((u0 &&& (31 : Int32)) <<< ((6 : Int32) &&& 31)) ||| (u1 &&& (63 : Int32)))), .val (.int (128 : Int32))] [(.int u1)])) rfl (by rw [hml]; rfl) (argsL := [(.int u1)]) (rest := []) (lenOf pd_0 rfl) rfl (by show 2 * 0 + _ ≤ _; exact Nat.le_of_eq rfl) (hb hby d2_146) (fun _ _ => ⟨rfl, e0, (by decide : 0 + 0 ≤ _), (by decide : 0 + 0 ≤ _)⟩)
      dsimp only [Pt.U, Pt.locs, Pt.cells, Pt.slots] at X4 l4 y4 z4 st4 hQ4
      subst l4 y4 z4
      obtain ⟨rfl, rfl, e4⟩ := hQ4
      refine Gl.go ?_ st4
      show Gl _ _ _ _ (T4.setTop (mkF m 149 #[.val (.int u0), .val (.int u1), .val (.int u2), .val (.int u3), .val (.int i), .val (.int to), .val (.int (2 : Int32)), .val (.int (((u0 &&& (31 : Int32)) <<< ((6 : Int32) &&& 31)) ||| (u1 &&& (63 : Int32)))), .val (.int (128 : Int32))] [(.int (f_cont u1))]))
      by_cases hc5 : (f_cont u1) = (0 : Int32)
      · refine Gl.go ?_ (fun t k => XS.ifNo X4.here hx rfl (hb hby d2_149) rfl ((if0 _ _).trans (teq hc5).2) k)
        show Gl _ _ _ _ (T4.setTop (mkF m 152 #[.val (.int u0), .val (.int u1), .val (.int u2), .val (.int u3), .val (.int i), .val (.int to), .val (.int (2 : Int32)), .val (.int (((u0 &&& (31 : Int32)) <<< ((6 : Int32) &&& 31)) ||| (u1 &&& (63 : Int32)))), .val (.int (128 : Int32))] []))
        refine Gl.go ?_ (fun t k => XS.iconst X4.here hx rfl (hb hby d2_152) k)
        show Gl _ _ _ _ (T4.setTop (mkF m 153 #[.val (.int u0), .val (.int u1), .val (.int u2), .val (.int u3), .val (.int i), .val (.int to), .val (.int (2 : Int32)), .val (.int (((u0 &&& (31 : Int32)) <<< ((6 : Int32) &&& 31)) ||| (u1 &&& (63 : Int32)))), .val (.int (128 : Int32))] [(.int (-1 : Int32))]))
        obtain ⟨fs, hr, hrun, hended, hW, hsame⟩ := X4.leave (v := some (.int (-1 : Int32))) (fun h => by rw [Bd.returns] at h; cases h) (BodyLoose.notSynchronized Bd)
        exact Gl.mk ⟨_, _, retI X4 hx Bd.returns (hb hby d2_153) hr, hrun, hended, _, _, rfl, ⟨congrArg (fun z => some (Value.int z)) ((if_pos hc2).trans ((if_neg hc3).trans ((if_pos hc5).trans (rfl)))).symm, rfl, e4⟩, ⟨_, rfl⟩, hW, hsame.mono (by decide) (by decide)⟩
      · refine Gl.go ?_ (fun t k => XS.ifYes X4.here hx rfl (pc0 := 149) (pc' := 154) rfl (hb hby d2_149) rfl ((if0 _ _).trans (feq hc5).2) (by decide) (by decide) k)
        show Gl _ _ _ _ (T4.setTop (mkF m 154 #[.val (.int u0), .val (.int u1), .val (.int u2), .val (.int u3), .val (.int i), .val (.int to), .val (.int (2 : Int32)), .val (.int (((u0 &&& (31 : Int32)) <<< ((6 : Int32) &&& 31)) ||| (u1 &&& (63 : Int32)))), .val (.int (128 : Int32))] []))
        refine Gl.go ?_ (fun t k => XS.iload X4.here hx rfl (hb hby d2_154) rfl k)
        show Gl _ _ _ _ (T4.setTop (mkF m 156 #[.val (.int u0), .val (.int u1), .val (.int u2), .val (.int u3), .val (.int i), .val (.int to), .val (.int (2 : Int32)), .val (.int (((u0 &&& (31 : Int32)) <<< ((6 : Int32) &&& 31)) ||| (u1 &&& (63 : Int32)))), .val (.int (128 : Int32))] [(.int (2 : Int32))]))
        refine Gl.go ?_ (fun t k => XS.iconst X4.here hx rfl (hb hby d2_156) k)
        show Gl _ _ _ _ (T4.setTop (mkF m 157 #[.val (.int u0), .val (.int u1), .val (.int u2), .val (.int u3), .val (.int i), .val (.int to), .val (.int (2 : Int32)), .val (.int (((u0 &&& (31 : Int32)) <<< ((6 : Int32) &&& 31)) ||| (u1 &&& (63 : Int32)))), .val (.int (128 : Int32))] [(.int (3 : Int32)), (.int (2 : Int32))]))
        refine Gl.go ?_ (fun t k => XS.icmpYes X4.here hx rfl (pc0 := 157) (pc' := 169) rfl (hb hby d2_157) rfl (tlt (by decide : (2 : Int32) < (3 : Int32))).1 (by decide) (by decide) k)
        show Gl _ _ _ _ (T4.setTop (mkF m 169 #[.val (.int u0), .val (.int u1), .val (.int u2), .val (.int u3), .val (.int i), .val (.int to), .val (.int (2 : Int32)), .val (.int (((u0 &&& (31 : Int32)) <<< ((6 : Int32) &&& 31)) ||| (u1 &&& (63 : Int32)))), .val (.int (128 : Int32))] []))
        refine Gl.go ?_ (fun t k => XS.iload X4.here hx rfl (hb hby d2_169) rfl k)
        show Gl _ _ _ _ (T4.setTop (mkF m 171 #[.val (.int u0), .val (.int u1), .val (.int u2), .val (.int u3), .val (.int i), .val (.int to), .val (.int (2 : Int32)), .val (.int (((u0 &&& (31 : Int32)) <<< ((6 : Int32) &&& 31)) ||| (u1 &&& (63 : Int32)))), .val (.int (128 : Int32))] [(.int (2 : Int32))]))
        refine Gl.go ?_ (fun t k => XS.iconst X4.here hx rfl (hb hby d2_171) k)
        show Gl _ _ _ _ (T4.setTop (mkF m 172 #[.val (.int u0), .val (.int u1), .val (.int u2), .val (.int u3), .val (.int i), .val (.int to), .val (.int (2 : Int32)), .val (.int (((u0 &&& (31 : Int32)) <<< ((6 : Int32) &&& 31)) ||| (u1 &&& (63 : Int32)))), .val (.int (128 : Int32))] [(.int (4 : Int32)), (.int (2 : Int32))]))
        refine Gl.go ?_ (fun t k => XS.icmpYes X4.here hx rfl (pc0 := 172) (pc' := 184) rfl (hb hby d2_172) rfl (feq (by decide : ¬ ((2 : Int32) = (4 : Int32)))).2 (by decide) (by decide) k)
        show Gl _ _ _ _ (T4.setTop (mkF m 184 #[.val (.int u0), .val (.int u1), .val (.int u2), .val (.int u3), .val (.int i), .val (.int to), .val (.int (2 : Int32)), .val (.int (((u0 &&& (31 : Int32)) <<< ((6 : Int32) &&& 31)) ||| (u1 &&& (63 : Int32)))), .val (.int (128 : Int32))] []))
        refine Gl.go ?_ (fun t k => XS.iload X4.here hx rfl (hb hby d2_184) rfl k)
        show Gl _ _ _ _ (T4.setTop (mkF m 186 #[.val (.int u0), .val (.int u1), .val (.int u2), .val (.int u3), .val (.int i), .val (.int to), .val (.int (2 : Int32)), .val (.int (((u0 &&& (31 : Int32)) <<< ((6 : Int32) &&& 31)) ||| (u1 &&& (63 : Int32)))), .val (.int (128 : Int32))] [(.int (((u0 &&& (31 : Int32)) <<< ((6 : Int32) &&& 31)) ||| (u1 &&& (63 : Int32))))]))
        refine Gl.go ?_ (fun t k => XS.iload X4.here hx rfl (hb hby d2_186) rfl k)
        show Gl _ _ _ _ (T4.setTop (mkF m 188 #[.val (.int u0), .val (.int u1), .val (.int u2), .val (.int u3), .val (.int i), .val (.int to), .val (.int (2 : Int32)), .val (.int (((u0 &&& (31 : Int32)) <<< ((6 : Int32) &&& 31)) ||| (u1 &&& (63 : Int32)))), .val (.int (128 : Int32))] [(.int (128 : Int32)), (.int (((u0 &&& (31 : Int32)) <<< ((6 : Int32) &&& 31)) ||| (u1 &&& (63 : Int32))))]))
        by_cases hc6 : (((u0 &&& (31 : Int32)) <<< ((6 : Int32) &&& 31)) ||| (u1 &&& (63 : Int32))) < (128 : Int32)
        · refine Gl.go ?_ (fun t k => XS.icmpYes X4.here hx rfl (pc0 := 188) (pc' := 198) rfl (hb hby d2_188) rfl (tlt hc6).1 (by decide) (by decide) k)
          show Gl _ _ _ _ (T4.setTop (mkF m 198 #[.val (.int u0), .val (.int u1), .val (.int u2), .val (.int u3), .val (.int i), .val (.int to), .val (.int (2 : Int32)), .val (.int (((u0 &&& (31 : Int32)) <<< ((6 : Int32) &&& 31)) ||| (u1 &&& (63 : Int32)))), .val (.int (128 : Int32))] []))
          refine Gl.go ?_ (fun t k => XS.iconst X4.here hx rfl (hb hby d2_198) k)
          show Gl _ _ _ _ (T4.setTop (mkF m 199 #[.val (.int u0), .val (.int u1), .val (.int u2), .val (.int u3), .val (.int i), .val (.int to), .val (.int (2 : Int32)), .val (.int (((u0 &&& (31 : Int32)) <<< ((6 : Int32) &&& 31)) ||| (u1 &&& (63 : Int32)))), .val (.int (128 : Int32))] [(.int (-1 : Int32))]))
          obtain ⟨fs, hr, hrun, hended, hW, hsame⟩ := X4.leave (v := some (.int (-1 : Int32))) (fun h => by rw [Bd.returns] at h; cases h) (BodyLoose.notSynchronized Bd)
          exact Gl.mk ⟨_, _, retI X4 hx Bd.returns (hb hby d2_199) hr, hrun, hended, _, _, rfl, ⟨congrArg (fun z => some (Value.int z)) ((if_pos hc2).trans ((if_neg hc3).trans ((if_neg hc5).trans ((if_pos hc6).trans (rfl))))).symm, rfl, e4⟩, ⟨_, rfl⟩, hW, hsame.mono (by decide) (by decide)⟩
        · refine Gl.go ?_ (fun t k => XS.icmpNo X4.here hx rfl (hb hby d2_188) rfl (flt hc6).1 k)
          show Gl _ _ _ _ (T4.setTop (mkF m 191 #[.val (.int u0), .val (.int u1), .val (.int u2), .val (.int u3), .val (.int i), .val (.int to), .val (.int (2 : Int32)), .val (.int (((u0 &&& (31 : Int32)) <<< ((6 : Int32) &&& 31)) ||| (u1 &&& (63 : Int32)))), .val (.int (128 : Int32))] []))
          refine Gl.go ?_ (fun t k => XS.iload X4.here hx rfl (hb hby d2_191) rfl k)
          show Gl _ _ _ _ (T4.setTop (mkF m 193 #[.val (.int u0), .val (.int u1), .val (.int u2), .val (.int u3), .val (.int i), .val (.int to), .val (.int (2 : Int32)), .val (.int (((u0 &&& (31 : Int32)) <<< ((6 : Int32) &&& 31)) ||| (u1 &&& (63 : Int32)))), .val (.int (128 : Int32))] [(.int (((u0 &&& (31 : Int32)) <<< ((6 : Int32) &&& 31)) ||| (u1 &&& (63 : Int32))))]))
          refine Gl.go ?_ (X4.ldcInt hx hown (mvT hZ (hw _ (List.mem_of_getElem? (i := 13) rfl))) (g := (mkF m 193 #[.val (.int u0), .val (.int u1), .val (.int u2), .val (.int u3), .val (.int i), .val (.int to), .val (.int (2 : Int32)), .val (.int (((u0 &&& (31 : Int32)) <<< ((6 : Int32) &&& 31)) ||| (u1 &&& (63 : Int32)))), .val (.int (128 : Int32))] [(.int (((u0 &&& (31 : Int32)) <<< ((6 : Int32) &&& 31)) ||| (u1 &&& (63 : Int32))))])) rfl (hb hby d2_193))
          show Gl _ _ _ _ (T4.setTop (mkF m 195 #[.val (.int u0), .val (.int u1), .val (.int u2), .val (.int u3), .val (.int i), .val (.int to), .val (.int (2 : Int32)), .val (.int (((u0 &&& (31 : Int32)) <<< ((6 : Int32) &&& 31)) ||| (u1 &&& (63 : Int32)))), .val (.int (128 : Int32))] [(.int (1114111 : Int32)), (.int (((u0 &&& (31 : Int32)) <<< ((6 : Int32) &&& 31)) ||| (u1 &&& (63 : Int32))))]))
          by_cases hc7 : (1114111 : Int32) < (((u0 &&& (31 : Int32)) <<< ((6 : Int32) &&& 31)) ||| (u1 &&& (63 : Int32)))
          · refine Gl.go ?_ (fun t k => XS.icmpNo X4.here hx rfl (hb hby d2_195) rfl (tlt hc7).2.2.2 k)
            show Gl _ _ _ _ (T4.setTop (mkF m 198 #[.val (.int u0), .val (.int u1), .val (.int u2), .val (.int u3), .val (.int i), .val (.int to), .val (.int (2 : Int32)), .val (.int (((u0 &&& (31 : Int32)) <<< ((6 : Int32) &&& 31)) ||| (u1 &&& (63 : Int32)))), .val (.int (128 : Int32))] []))
            refine Gl.go ?_ (fun t k => XS.iconst X4.here hx rfl (hb hby d2_198) k)
            show Gl _ _ _ _ (T4.setTop (mkF m 199 #[.val (.int u0), .val (.int u1), .val (.int u2), .val (.int u3), .val (.int i), .val (.int to), .val (.int (2 : Int32)), .val (.int (((u0 &&& (31 : Int32)) <<< ((6 : Int32) &&& 31)) ||| (u1 &&& (63 : Int32)))), .val (.int (128 : Int32))] [(.int (-1 : Int32))]))
            obtain ⟨fs, hr, hrun, hended, hW, hsame⟩ := X4.leave (v := some (.int (-1 : Int32))) (fun h => by rw [Bd.returns] at h; cases h) (BodyLoose.notSynchronized Bd)
            exact Gl.mk ⟨_, _, retI X4 hx Bd.returns (hb hby d2_199) hr, hrun, hended, _, _, rfl, ⟨congrArg (fun z => some (Value.int z)) ((if_pos hc2).trans ((if_neg hc3).trans ((if_neg hc5).trans ((if_neg hc6).trans ((if_pos hc7).trans (rfl)))))).symm, rfl, e4⟩, ⟨_, rfl⟩, hW, hsame.mono (by decide) (by decide)⟩
          · refine Gl.go ?_ (fun t k => XS.icmpYes X4.here hx rfl (pc0 := 195) (pc' := 200) rfl (hb hby d2_195) rfl (flt hc7).2.2.2 (by decide) (by decide) k)
            show Gl _ _ _ _ (T4.setTop (mkF m 200 #[.val (.int u0), .val (.int u1), .val (.int u2), .val (.int u3), .val (.int i), .val (.int to), .val (.int (2 : Int32)), .val (.int (((u0 &&& (31 : Int32)) <<< ((6 : Int32) &&& 31)) ||| (u1 &&& (63 : Int32)))), .val (.int (128 : Int32))] []))
            refine Gl.go ?_ (fun t k => XS.iload X4.here hx rfl (hb hby d2_200) rfl k)
            show Gl _ _ _ _ (T4.setTop (mkF m 202 #[.val (.int u0), .val (.int u1), .val (.int u2), .val (.int u3), .val (.int i), .val (.int to), .val (.int (2 : Int32)), .val (.int (((u0 &&& (31 : Int32)) <<< ((6 : Int32) &&& 31)) ||| (u1 &&& (63 : Int32)))), .val (.int (128 : Int32))] [(.int (((u0 &&& (31 : Int32)) <<< ((6 : Int32) &&& 31)) ||| (u1 &&& (63 : Int32))))]))
            refine Gl.go ?_ (X4.ldcInt hx hown (mvT hZ (hw _ (List.mem_of_getElem? (i := 14) rfl))) (g := (mkF m 202 #[.val (.int u0), .val (.int u1), .val (.int u2), .val (.int u3), .val (.int i), .val (.int to), .val (.int (2 : Int32)), .val (.int (((u0 &&& (31 : Int32)) <<< ((6 : Int32) &&& 31)) ||| (u1 &&& (63 : Int32)))), .val (.int (128 : Int32))] [(.int (((u0 &&& (31 : Int32)) <<< ((6 : Int32) &&& 31)) ||| (u1 &&& (63 : Int32))))])) rfl (hb hby d2_202))
            show Gl _ _ _ _ (T4.setTop (mkF m 204 #[.val (.int u0), .val (.int u1), .val (.int u2), .val (.int u3), .val (.int i), .val (.int to), .val (.int (2 : Int32)), .val (.int (((u0 &&& (31 : Int32)) <<< ((6 : Int32) &&& 31)) ||| (u1 &&& (63 : Int32)))), .val (.int (128 : Int32))] [(.int (55296 : Int32)), (.int (((u0 &&& (31 : Int32)) <<< ((6 : Int32) &&& 31)) ||| (u1 &&& (63 : Int32))))]))
            by_cases hc8 : (((u0 &&& (31 : Int32)) <<< ((6 : Int32) &&& 31)) ||| (u1 &&& (63 : Int32))) < (55296 : Int32)
            · refine Gl.go ?_ (fun t k => XS.icmpYes X4.here hx rfl (pc0 := 204) (pc' := 216) rfl (hb hby d2_204) rfl (tlt hc8).1 (by decide) (by decide) k)
              show Gl _ _ _ _ (T4.setTop (mkF m 216 #[.val (.int u0), .val (.int u1), .val (.int u2), .val (.int u3), .val (.int i), .val (.int to), .val (.int (2 : Int32)), .val (.int (((u0 &&& (31 : Int32)) <<< ((6 : Int32) &&& 31)) ||| (u1 &&& (63 : Int32)))), .val (.int (128 : Int32))] []))
              refine Gl.go ?_ (fun t k => XS.iload X4.here hx rfl (hb hby d2_216) rfl k)
              show Gl _ _ _ _ (T4.setTop (mkF m 218 #[.val (.int u0), .val (.int u1), .val (.int u2), .val (.int u3), .val (.int i), .val (.int to), .val (.int (2 : Int32)), .val (.int (((u0 &&& (31 : Int32)) <<< ((6 : Int32) &&& 31)) ||| (u1 &&& (63 : Int32)))), .val (.int (128 : Int32))] [(.int i)]))
              refine Gl.go ?_ (fun t k => XS.iload X4.here hx rfl (hb hby d2_218) rfl k)
              show Gl _ _ _ _ (T4.setTop (mkF m 220 #[.val (.int u0), .val (.int u1), .val (.int u2), .val (.int u3), .val (.int i), .val (.int to), .val (.int (2 : Int32)), .val (.int (((u0 &&& (31 : Int32)) <<< ((6 : Int32) &&& 31)) ||| (u1 &&& (63 : Int32)))), .val (.int (128 : Int32))] [(.int (2 : Int32)), (.int i)]))
              refine Gl.go ?_ (fun t k => XS.iadd X4.here hx rfl (hb hby d2_220) rfl k)
              show Gl _ _ _ _ (T4.setTop (mkF m 221 #[.val (.int u0), .val (.int u1), .val (.int u2), .val (.int u3), .val (.int i), .val (.int to), .val (.int (2 : Int32)), .val (.int (((u0 &&& (31 : Int32)) <<< ((6 : Int32) &&& 31)) ||| (u1 &&& (63 : Int32)))), .val (.int (128 : Int32))] [(.int (i + (2 : Int32)))]))
              obtain ⟨fs, hr, hrun, hended, hW, hsame⟩ := X4.leave (v := some (.int (i + (2 : Int32)))) (fun h => by rw [Bd.returns] at h; cases h) (BodyLoose.notSynchronized Bd)
              exact Gl.mk ⟨_, _, retI X4 hx Bd.returns (hb hby d2_221) hr, hrun, hended, _, _, rfl, ⟨congrArg (fun z => some (Value.int z)) ((if_pos hc2).trans ((if_neg hc3).trans ((if_neg hc5).trans ((if_neg hc6).trans ((if_neg hc7).trans ((if_pos hc8).trans (rfl))))))).symm, rfl, e4⟩, ⟨_, rfl⟩, hW, hsame.mono (by decide) (by decide)⟩
            · refine Gl.go ?_ (fun t k => XS.icmpNo X4.here hx rfl (hb hby d2_204) rfl (flt hc8).1 k)
              show Gl _ _ _ _ (T4.setTop (mkF m 207 #[.val (.int u0), .val (.int u1), .val (.int u2), .val (.int u3), .val (.int i), .val (.int to), .val (.int (2 : Int32)), .val (.int (((u0 &&& (31 : Int32)) <<< ((6 : Int32) &&& 31)) ||| (u1 &&& (63 : Int32)))), .val (.int (128 : Int32))] []))
              refine Gl.go ?_ (fun t k => XS.iload X4.here hx rfl (hb hby d2_207) rfl k)
              show Gl _ _ _ _ (T4.setTop (mkF m 209 #[.val (.int u0), .val (.int u1), .val (.int u2), .val (.int u3), .val (.int i), .val (.int to), .val (.int (2 : Int32)), .val (.int (((u0 &&& (31 : Int32)) <<< ((6 : Int32) &&& 31)) ||| (u1 &&& (63 : Int32)))), .val (.int (128 : Int32))] [(.int (((u0 &&& (31 : Int32)) <<< ((6 : Int32) &&& 31)) ||| (u1 &&& (63 : Int32))))]))
              refine Gl.go ?_ (X4.ldcInt hx hown (mvT hZ (hw _ (List.mem_of_getElem? (i := 16) rfl))) (g := (mkF m 209 #[.val (.int u0), .val (.int u1), .val (.int u2), .val (.int u3), .val (.int i), .val (.int to), .val (.int (2 : Int32)), .val (.int (((u0 &&& (31 : Int32)) <<< ((6 : Int32) &&& 31)) ||| (u1 &&& (63 : Int32)))), .val (.int (128 : Int32))] [(.int (((u0 &&& (31 : Int32)) <<< ((6 : Int32) &&& 31)) ||| (u1 &&& (63 : Int32))))])) rfl (hb hby d2_209))
              show Gl _ _ _ _ (T4.setTop (mkF m 211 #[.val (.int u0), .val (.int u1), .val (.int u2), .val (.int u3), .val (.int i), .val (.int to), .val (.int (2 : Int32)), .val (.int (((u0 &&& (31 : Int32)) <<< ((6 : Int32) &&& 31)) ||| (u1 &&& (63 : Int32)))), .val (.int (128 : Int32))] [(.int (57343 : Int32)), (.int (((u0 &&& (31 : Int32)) <<< ((6 : Int32) &&& 31)) ||| (u1 &&& (63 : Int32))))]))
              by_cases hc9 : (57343 : Int32) < (((u0 &&& (31 : Int32)) <<< ((6 : Int32) &&& 31)) ||| (u1 &&& (63 : Int32)))
              · refine Gl.go ?_ (fun t k => XS.icmpYes X4.here hx rfl (pc0 := 211) (pc' := 216) rfl (hb hby d2_211) rfl (tlt hc9).2.2.1 (by decide) (by decide) k)
                show Gl _ _ _ _ (T4.setTop (mkF m 216 #[.val (.int u0), .val (.int u1), .val (.int u2), .val (.int u3), .val (.int i), .val (.int to), .val (.int (2 : Int32)), .val (.int (((u0 &&& (31 : Int32)) <<< ((6 : Int32) &&& 31)) ||| (u1 &&& (63 : Int32)))), .val (.int (128 : Int32))] []))
                refine Gl.go ?_ (fun t k => XS.iload X4.here hx rfl (hb hby d2_216) rfl k)
                show Gl _ _ _ _ (T4.setTop (mkF m 218 #[.val (.int u0), .val (.int u1), .val (.int u2), .val (.int u3), .val (.int i), .val (.int to), .val (.int (2 : Int32)), .val (.int (((u0 &&& (31 : Int32)) <<< ((6 : Int32) &&& 31)) ||| (u1 &&& (63 : Int32)))), .val (.int (128 : Int32))] [(.int i)]))
                refine Gl.go ?_ (fun t k => XS.iload X4.here hx rfl (hb hby d2_218) rfl k)
                show Gl _ _ _ _ (T4.setTop (mkF m 220 #[.val (.int u0), .val (.int u1), .val (.int u2), .val (.int u3), .val (.int i), .val (.int to), .val (.int (2 : Int32)), .val (.int (((u0 &&& (31 : Int32)) <<< ((6 : Int32) &&& 31)) ||| (u1 &&& (63 : Int32)))), .val (.int (128 : Int32))] [(.int (2 : Int32)), (.int i)]))
                refine Gl.go ?_ (fun t k => XS.iadd X4.here hx rfl (hb hby d2_220) rfl k)
                show Gl _ _ _ _ (T4.setTop (mkF m 221 #[.val (.int u0), .val (.int u1), .val (.int u2), .val (.int u3), .val (.int i), .val (.int to), .val (.int (2 : Int32)), .val (.int (((u0 &&& (31 : Int32)) <<< ((6 : Int32) &&& 31)) ||| (u1 &&& (63 : Int32)))), .val (.int (128 : Int32))] [(.int (i + (2 : Int32)))]))
                obtain ⟨fs, hr, hrun, hended, hW, hsame⟩ := X4.leave (v := some (.int (i + (2 : Int32)))) (fun h => by rw [Bd.returns] at h; cases h) (BodyLoose.notSynchronized Bd)
                exact Gl.mk ⟨_, _, retI X4 hx Bd.returns (hb hby d2_221) hr, hrun, hended, _, _, rfl, ⟨congrArg (fun z => some (Value.int z)) ((if_pos hc2).trans ((if_neg hc3).trans ((if_neg hc5).trans ((if_neg hc6).trans ((if_neg hc7).trans ((if_neg hc8).trans ((if_pos hc9).trans (rfl)))))))).symm, rfl, e4⟩, ⟨_, rfl⟩, hW, hsame.mono (by decide) (by decide)⟩
              · refine Gl.go ?_ (fun t k => XS.icmpNo X4.here hx rfl (hb hby d2_211) rfl (flt hc9).2.2.1 k)
                show Gl _ _ _ _ (T4.setTop (mkF m 214 #[.val (.int u0), .val (.int u1), .val (.int u2), .val (.int u3), .val (.int i), .val (.int to), .val (.int (2 : Int32)), .val (.int (((u0 &&& (31 : Int32)) <<< ((6 : Int32) &&& 31)) ||| (u1 &&& (63 : Int32)))), .val (.int (128 : Int32))] []))
                refine Gl.go ?_ (fun t k => XS.iconst X4.here hx rfl (hb hby d2_214) k)
                show Gl _ _ _ _ (T4.setTop (mkF m 215 #[.val (.int u0), .val (.int u1), .val (.int u2), .val (.int u3), .val (.int i), .val (.int to), .val (.int (2 : Int32)), .val (.int (((u0 &&& (31 : Int32)) <<< ((6 : Int32) &&& 31)) ||| (u1 &&& (63 : Int32)))), .val (.int (128 : Int32))] [(.int (-1 : Int32))]))
                obtain ⟨fs, hr, hrun, hended, hW, hsame⟩ := X4.leave (v := some (.int (-1 : Int32))) (fun h => by rw [Bd.returns] at h; cases h) (BodyLoose.notSynchronized Bd)
                exact Gl.mk ⟨_, _, retI X4 hx Bd.returns (hb hby d2_215) hr, hrun, hended, _, _, rfl, ⟨congrArg (fun z => some (Value.int z)) ((if_pos hc2).trans ((if_neg hc3).trans ((if_neg hc5).trans ((if_neg hc6).trans ((if_neg hc7).trans ((if_neg hc8).trans ((if_neg hc9).trans (rfl)))))))).symm, rfl, e4⟩, ⟨_, rfl⟩, hW, hsame.mono (by decide) (by decide)⟩
  · refine Gl.go ?_ (fun t k => XS.icmpYes X0.here hx rfl (pc0 := 8) (pc' := 36) rfl (hb hby d2_8) rfl (feq hc2).2 (by decide) (by decide) k)
    show Gl _ _ _ _ (s₁.setTop (mkF m 36 #[.val (.int u0), .val (.int u1), .val (.int u2), .val (.int u3), .val (.int i), .val (.int to), .unset, .unset, .unset] []))
    refine Gl.go ?_ (fun t k => XS.iloadN X0.here hx rfl (hb hby d2_36) rfl k)
    show Gl _ _ _ _ (s₁.setTop (mkF m 37 #[.val (.int u0), .val (.int u1), .val (.int u2), .val (.int u3), .val (.int i), .val (.int to), .unset, .unset, .unset] [(.int u0)]))
    refine Gl.go ?_ (fun t k => XS.sipush X0.here hx rfl (hb hby d2_37) k)
    show Gl _ _ _ _ (s₁.setTop (mkF m 40 #[.val (.int u0), .val (.int u1), .val (.int u2), .val (.int u3), .val (.int i), .val (.int to), .unset, .unset, .unset] [(.int (240 : Int32)), (.int u0)]))
    refine Gl.go ?_ (fun t k => XS.iand X0.here hx rfl (hb hby d2_40) rfl k)
    show Gl _ _ _ _ (s₁.setTop (mkF m 41 #[.val (.int u0), .val (.int u1), .val (.int u2), .val (.int u3), .val (.int i), .val (.int to), .unset, .unset, .unset] [(.int (u0 &&& (240 : Int32)))]))
    refine Gl.go ?_ (fun t k => XS.sipush X0.here hx rfl (hb hby d2_41) k)
    show Gl _ _ _ _ (s₁.setTop (mkF m 44 #[.val (.int u0), .val (.int u1), .val (.int u2), .val (.int u3), .val (.int i), .val (.int to), .unset, .unset, .unset] [(.int (224 : Int32)), (.int (u0 &&& (240 : Int32)))]))
    by_cases hc10 : (u0 &&& (240 : Int32)) = (224 : Int32)
    · refine Gl.go ?_ (fun t k => XS.icmpNo X0.here hx rfl (hb hby d2_44) rfl (teq hc10).2 k)
      show Gl _ _ _ _ (s₁.setTop (mkF m 47 #[.val (.int u0), .val (.int u1), .val (.int u2), .val (.int u3), .val (.int i), .val (.int to), .unset, .unset, .unset] []))
      refine Gl.go ?_ (fun t k => XS.iconst X0.here hx rfl (hb hby d2_47) k)
      show Gl _ _ _ _ (s₁.setTop (mkF m 48 #[.val (.int u0), .val (.int u1), .val (.int u2), .val (.int u3), .val (.int i), .val (.int to), .unset, .unset, .unset] [(.int (3 : Int32))]))
      refine Gl.go ?_ (fun t k => XS.istore X0.here hx rfl (hb hby d2_48) rfl (l' := #[.val (.int u0), .val (.int u1), .val (.int u2), .val (.int u3), .val (.int i), .val (.int to), .val (.int (3 : Int32)), .unset, .unset]) rfl k)
      show Gl _ _ _ _ (s₁.setTop (mkF m 50 #[.val (.int u0), .val (.int u1), .val (.int u2), .val (.int u3), .val (.int i), .val (.int to), .val (.int (3 : Int32)), .unset, .unset] []))
      refine Gl.go ?_ (fun t k => XS.iloadN X0.here hx rfl (hb hby d2_50) rfl k)
      show Gl _ _ _ _ (s₁.setTop (mkF m 51 #[.val (.int u0), .val (.int u1), .val (.int u2), .val (.int u3), .val (.int i), .val (.int to), .val (.int (3 : Int32)), .unset, .unset] [(.int u0)]))
      refine Gl.go ?_ (fun t k => XS.bipush X0.here hx rfl (hb hby d2_51) k)
      show Gl _ _ _ _ (s₁.setTop (mkF m 53 #[.val (.int u0), .val (.int u1), .val (.int u2), .val (.int u3), .val (.int i), .val (.int to), .val (.int (3 : Int32)), .unset, .unset] [(.int (15 : Int32)), (.int u0)]))
      refine Gl.go ?_ (fun t k => XS.iand X0.here hx rfl (hb hby d2_53) rfl k)
      show Gl _ _ _ _ (s₁.setTop (mkF m 54 #[.val (.int u0), .val (.int u1), .val (.int u2), .val (.int u3), .val (.int i), .val (.int to), .val (.int (3 : Int32)), .unset, .unset] [(.int (u0 &&& (15 : Int32)))]))
      refine Gl.go ?_ (fun t k => XS.bipush X0.here hx rfl (hb hby d2_54) k)
      show Gl _ _ _ _ (s₁.setTop (mkF m 56 #[.val (.int u0), .val (.int u1), .val (.int u2), .val (.int u3), .val (.int i), .val (.int to), .val (.int (3 : Int32)), .unset, .unset] [(.int (12 : Int32)), (.int (u0 &&& (15 : Int32)))]))
      refine Gl.go ?_ (fun t k => XS.ishl X0.here hx rfl (hb hby d2_56) rfl k)
      show Gl _ _ _ _ (s₁.setTop (mkF m 57 #[.val (.int u0), .val (.int u1), .val (.int u2), .val (.int u3), .val (.int i), .val (.int to), .val (.int (3 : Int32)), .unset, .unset] [(.int ((u0 &&& (15 : Int32)) <<< ((12 : Int32) &&& 31)))]))
      refine Gl.go ?_ (fun t k => XS.iloadN X0.here hx rfl (hb hby d2_57) rfl k)
      show Gl _ _ _ _ (s₁.setTop (mkF m 58 #[.val (.int u0), .val (.int u1), .val (.int u2), .val (.int u3), .val (.int i), .val (.int to), .val (.int (3 : Int32)), .unset, .unset] [(.int u1), (.int ((u0 &&& (15 : Int32)) <<< ((12 : Int32) &&& 31)))]))
      refine Gl.go ?_ (fun t k => XS.bipush X0.here hx rfl (hb hby d2_58) k)
      show Gl _ _ _ _ (s₁.setTop (mkF m 60 #[.val (.int u0), .val (.int u1), .val (.int u2), .val (.int u3), .val (.int i), .val (.int to), .val (.int (3 : Int32)), .unset, .unset] [(.int (63 : Int32)), (.int u1), (.int ((u0 &&& (15 : Int32)) <<< ((12 : Int32) &&& 31)))]))
      refine Gl.go ?_ (fun t k => XS.iand X0.here hx rfl (hb hby d2_60) rfl k)
      show Gl _ _ _ _ (s₁.setTop (mkF m 61 #[.val (.int u0), .val (.int u1), .val (.int u2), .val (.int u3), .val (.int i), .val (.int to), .val (.int (3 : Int32)), .unset, .unset] [(.int (u1 &&& (63 : Int32))), (.int ((u0 &&& (15 : Int32)) <<< ((12 : Int32) &&& 31)))]))
      refine Gl.go ?_ (fun t k => XS.bipush X0.here hx rfl (hb hby d2_61) k)
      show Gl _ _ _ _ (s₁.setTop (mkF m 63 #[.val (.int u0), .val (.int u1), .val (.int u2), .val (.int u3), .val (.int i), .val (.int to), .val (.int (3 : Int32)), .unset, .unset] [(.int (6 : Int32)), (.int (u1 &&& (63 : Int32))), (.int ((u0 &&& (15 : Int32)) <<< ((12 : Int32) &&& 31)))]))
      refine Gl.go ?_ (fun t k => XS.ishl X0.here hx rfl (hb hby d2_63) rfl k)
      show Gl _ _ _ _ (s₁.setTop (mkF m 64 #[.val (.int u0), .val (.int u1), .val (.int u2), .val (.int u3), .val (.int i), .val (.int to), .val (.int (3 : Int32)), .unset, .unset] [(.int ((u1 &&& (63 : Int32)) <<< ((6 : Int32) &&& 31))), (.int ((u0 &&& (15 : Int32)) <<< ((12 : Int32) &&& 31)))]))
      refine Gl.go ?_ (fun t k => XS.ior X0.here hx rfl (hb hby d2_64) rfl k)
      show Gl _ _ _ _ (s₁.setTop (mkF m 65 #[.val (.int u0), .val (.int u1), .val (.int u2), .val (.int u3), .val (.int i), .val (.int to), .val (.int (3 : Int32)), .unset, .unset] [(.int (((u0 &&& (15 : Int32)) <<< ((12 : Int32) &&& 31)) ||| ((u1 &&& (63 : Int32)) <<< ((6 : Int32) &&& 31))))]))
      refine Gl.go ?_ (fun t k => XS.iloadN X0.here hx rfl (hb hby d2_65) rfl k)
      show Gl _ _ _ _ (s₁.setTop (mkF m 66 #[.val (.int u0), .val (.int u1), .val (.int u2), .val (.int u3), .val (.int i), .val (.int to), .val (.int (3 : Int32)), .unset, .unset] [(.int u2), (.int (((u0 &&& (15 : Int32)) <<< ((12 : Int32) &&& 31)) ||| ((u1 &&& (63 : Int32)) <<< ((6 : Int32) &&& 31))))]))
      refine Gl.go ?_ (fun t k => XS.bipush X0.here hx rfl (hb hby d2_66) k)
      show Gl _ _ _ _ (s₁.setTop (mkF m 68 #[.val (.int u0), .val (.int u1), .val (.int u2), .val (.int u3), .val (.int i), .val (.int to), .val (.int (3 : Int32)), .unset, .unset] [(.int (63 : Int32)), (.int u2), (.int (((u0 &&& (15 : Int32)) <<< ((12 : Int32) &&& 31)) ||| ((u1 &&& (63 : Int32)) <<< ((6 : Int32) &&& 31))))]))
      refine Gl.go ?_ (fun t k => XS.iand X0.here hx rfl (hb hby d2_68) rfl k)
      show Gl _ _ _ _ (s₁.setTop (mkF m 69 #[.val (.int u0), .val (.int u1), .val (.int u2), .val (.int u3), .val (.int i), .val (.int to), .val (.int (3 : Int32)), .unset, .unset] [(.int (u2 &&& (63 : Int32))), (.int (((u0 &&& (15 : Int32)) <<< ((12 : Int32) &&& 31)) ||| ((u1 &&& (63 : Int32)) <<< ((6 : Int32) &&& 31))))]))
      refine Gl.go ?_ (fun t k => XS.ior X0.here hx rfl (hb hby d2_69) rfl k)
      show Gl _ _ _ _ (s₁.setTop (mkF m 70 #[.val (.int u0), .val (.int u1), .val (.int u2), .val (.int u3), .val (.int i), .val (.int to), .val (.int (3 : Int32)), .unset, .unset] [(.int ((((u0 &&& (15 : Int32)) <<< ((12 : Int32) &&& 31)) ||| ((u1 &&& (63 : Int32)) <<< ((6 : Int32) &&& 31))) ||| (u2 &&& (63 : Int32))))]))
      refine Gl.go ?_ (fun t k => XS.istore X0.here hx rfl (hb hby d2_70) rfl (l' := #[.val (.int u0), .val (.int u1), .val (.int u2), .val (.int u3), .val (.int i), .val (.int to), .val (.int (3 : Int32)), .val (.int ((((u0 &&& (15 : Int32)) <<< ((12 : Int32) &&& 31)) ||| ((u1 &&& (63 : Int32)) <<< ((6 : Int32) &&& 31))) ||| (u2 &&& (63 : Int32)))), .unset]) rfl k)
      show Gl _ _ _ _ (s₁.setTop (mkF m 72 #[.val (.int u0), .val (.int u1), .val (.int u2), .val (.int u3), .val (.int i), .val (.int to), .val (.int (3 : Int32)), .val (.int ((((u0 &&& (15 : Int32)) <<< ((12 : Int32) &&& 31)) ||| ((u1 &&& (63 : Int32)) <<< ((6 : Int32) &&& 31))) ||| (u2 &&& (63 : Int32)))), .unset] []))
      refine Gl.go ?_ (fun t k => XS.sipush X0.here hx rfl (hb hby d2_72) k)
      show Gl _ _ _ _ (s₁.setTop (mkF m 75 #[.val (.int u0), .val (.int u1), .val (.int u2), .val (.int u3), .val (.int i), .val (.int to), .val (.int (3 : Int32)), .val (.int ((((u0 &&& (15 : Int32)) <<< ((12 : Int32) &&& 31)) ||| ((u1 &&& (63 : Int32)) <<< ((6 : Int32) &&& 31))) ||| (u2 &&& (63 : Int32)))), .unset] [(.int (2048 : Int32))]))
      refine Gl.go ?_ (fun t k => XS.istore X0.here hx rfl (hb hby d2_75) rfl (l' := #[.val (.int u0), .val (.int u1), .val (.int u2), .val (.int u3), .val (.int i), .val (.int to), .val (.int (3 : Int32)), .val (.int ((((u0 &&& (15 : Int32)) <<< ((12 : Int32) &&& 31)) ||| ((u1 &&& (63 : Int32)) <<< ((6 : Int32) &&& 31))) ||| (u2 &&& (63 : Int32)))), .val (.int (2048 : Int32))]) rfl k)
      show Gl _ _ _ _ (s₁.setTop (mkF m 77 #[.val (.int u0), .val (.int u1), .val (.int u2), .val (.int u3), .val (.int i), .val (.int to), .val (.int (3 : Int32)), .val (.int ((((u0 &&& (15 : Int32)) <<< ((12 : Int32) &&& 31)) ||| ((u1 &&& (63 : Int32)) <<< ((6 : Int32) &&& 31))) ||| (u2 &&& (63 : Int32)))), .val (.int (2048 : Int32))] []))
      refine Gl.go ?_ (fun t k => XS.goto X0.here hx rfl (pc0 := 77) (pc' := 133) rfl (hb hby d2_77) (by decide) (by decide) k)
      show Gl _ _ _ _ (s₁.setTop (mkF m 133 #[.val (.int u0), .val (.int u1), .val (.int u2), .val (.int u3), .val (.int i), .val (.int to), .val (.int (3 : Int32)), .val (.int ((((u0 &&& (15 : Int32)) <<< ((12 : Int32) &&& 31)) ||| ((u1 &&& (63 : Int32)) <<< ((6 : Int32) &&& 31))) ||| (u2 &&& (63 : Int32)))), .val (.int (2048 : Int32))] []))
      refine Gl.go ?_ (fun t k => XS.iload X0.here hx rfl (hb hby d2_133) rfl k)
      show Gl _ _ _ _ (s₁.setTop (mkF m 135 #[.val (.int u0), .val (.int u1), .val (.int u2), .val (.int u3), .val (.int i), .val (.int to), .val (.int (3 : Int32)), .val (.int ((((u0 &&& (15 : Int32)) <<< ((12 : Int32) &&& 31)) ||| ((u1 &&& (63 : Int32)) <<< ((6 : Int32) &&& 31))) ||| (u2 &&& (63 : Int32)))), .val (.int (2048 : Int32))] [(.int to)]))
      refine Gl.go ?_ (fun t k => XS.iload X0.here hx rfl (hb hby d2_135) rfl k)
      show Gl _ _ _ _ (s₁.setTop (mkF m 137 #[.val (.int u0), .val (.int u1), .val (.int u2), .val (.int u3), .val (.int i), .val (.int to), .val (.int (3 : Int32)), .val (.int ((((u0 &&& (15 : Int32)) <<< ((12 : Int32) &&& 31)) ||| ((u1 &&& (63 : Int32)) <<< ((6 : Int32) &&& 31))) ||| (u2 &&& (63 : Int32)))), .val (.int (2048 : Int32))] [(.int i), (.int to)]))
      refine Gl.go ?_ (fun t k => XS.isub X0.here hx rfl (hb hby d2_137) rfl k)
      show Gl _ _ _ _ (s₁.setTop (mkF m 138 #[.val (.int u0), .val (.int u1), .val (.int u2), .val (.int u3), .val (.int i), .val (.int to), .val (.int (3 : Int32)), .val (.int ((((u0 &&& (15 : Int32)) <<< ((12 : Int32) &&& 31)) ||| ((u1 &&& (63 : Int32)) <<< ((6 : Int32) &&& 31))) ||| (u2 &&& (63 : Int32)))), .val (.int (2048 : Int32))] [(.int (to - i))]))
      refine Gl.go ?_ (fun t k => XS.iload X0.here hx rfl (hb hby d2_138) rfl k)
      show Gl _ _ _ _ (s₁.setTop (mkF m 140 #[.val (.int u0), .val (.int u1), .val (.int u2), .val (.int u3), .val (.int i), .val (.int to), .val (.int (3 : Int32)), .val (.int ((((u0 &&& (15 : Int32)) <<< ((12 : Int32) &&& 31)) ||| ((u1 &&& (63 : Int32)) <<< ((6 : Int32) &&& 31))) ||| (u2 &&& (63 : Int32)))), .val (.int (2048 : Int32))] [(.int (3 : Int32)), (.int (to - i))]))
      by_cases hc11 : (to - i) < (3 : Int32)
      · refine Gl.go ?_ (fun t k => XS.icmpNo X0.here hx rfl (hb hby d2_140) rfl (tlt hc11).2.1 k)
        show Gl _ _ _ _ (s₁.setTop (mkF m 143 #[.val (.int u0), .val (.int u1), .val (.int u2), .val (.int u3), .val (.int i), .val (.int to), .val (.int (3 : Int32)), .val (.int ((((u0 &&& (15 : Int32)) <<< ((12 : Int32) &&& 31)) ||| ((u1 &&& (63 : Int32)) <<< ((6 : Int32) &&& 31))) ||| (u2 &&& (63 : Int32)))), .val (.int (2048 : Int32))] []))
        refine Gl.go ?_ (fun t k => XS.iconst X0.here hx rfl (hb hby d2_143) k)
        show Gl _ _ _ _ (s₁.setTop (mkF m 144 #[.val (.int u0), .val (.int u1), .val (.int u2), .val (.int u3), .val (.int i), .val (.int to), .val (.int (3 : Int32)), .val (.int ((((u0 &&& (15 : Int32)) <<< ((12 : Int32) &&& 31)) ||| ((u1 &&& (63 : Int32)) <<< ((6 : Int32) &&& 31))) ||| (u2 &&& (63 : Int32)))), .val (.int (2048 : Int32))] [(.int (-1 : Int32))]))
        obtain ⟨fs, hr, hrun, hended, hW, hsame⟩ := X0.leave (v := some (.int (-1 : Int32))) (fun h => by rw [Bd.returns] at h; cases h) (BodyLoose.notSynchronized Bd)
        exact Gl.mk ⟨_, _, retI X0 hx Bd.returns (hb hby d2_144) hr, hrun, hended, _, _, rfl, ⟨congrArg (fun z => some (Value.int z)) ((if_neg hc2).trans ((if_pos hc10).trans ((if_pos hc11).trans (rfl)))).symm, rfl, e0⟩, ⟨_, rfl⟩, hW, hsame.mono (by decide) (by decide)⟩
      · refine Gl.go ?_ (fun t k => XS.icmpYes X0.here hx rfl (pc0 := 140) (pc' := 145) rfl (hb hby d2_140) rfl (flt hc11).2.1 (by decide) (by decide) k)
        show Gl _ _ _ _ (s₁.setTop (mkF m 145 #[.val (.int u0), .val (.int u1), .val (.int u2), .val (.int u3), .val (.int i), .val (.int to), .val (.int (3 : Int32)), .val (.int ((((u0 &&& (15 : Int32)) <<< ((12 : Int32) &&& 31)) ||| ((u1 &&& (63 : Int32)) <<< ((6 : Int32) &&& 31))) ||| (u2 &&& (63 : Int32)))), .val (.int (2048 : Int32))] []))
        refine Gl.go ?_ (fun t k => XS.iloadN X0.here hx rfl (hb hby d2_145) rfl k)
        show Gl _ _ _ _ (s₁.setTop (mkF m 146 #[.val (.int u0), .val (.int u1), .val (.int u2), .val (.int u3), .val (.int i), .val (.int to), .val (.int (3 : Int32)), .val (.int ((((u0 &&& (15 : Int32)) <<< ((12 : Int32) &&& 31)) ||| ((u1 &&& (63 : Int32)) <<< ((6 : Int32) &&& 31))) ||| (u2 &&& (63 : Int32)))), .val (.int (2048 : Int32))] [(.int u1)]))
        obtain ⟨_, _, ⟨T12, L12, k12, n12⟩, -, X12, ⟨Lc12, hQ12, l12, y12, z12⟩, st12⟩ := Jvm.LawKit.callS X0 hx (y := (⟨"com/example/litera/litera/Utf8SequenceEndPinLaw", "isCont", "(I)Z"⟩ : MethodName)) hown (mvT hZ (hw _ (List.mem_of_getElem? (i := 10) rfl))) (mvT hZ (hw _ (List.mem_of_getElem? (i := 11) rfl))) (mvT hZ (hw _ (List.mem_of_getElem? (i := 8) rfl))) (mvT hZ (hw _ (List.mem_of_getElem? (i := 12) rfl))) (by decide) (backOf (W := 0) (rm3 l Z a0 hw [] u1 h0) hZ (hw _ (List.mem_of_getElem? (i := 12) rfl)) (hw _ (List.mem_of_getElem? (i := 8) rfl)) (by decide) (by decide)) (g := (mkF m 146 #[.val (.int u0), .val (.int u1), .val (.int u2), .val (.int u3), .val (.int i), .val (.int to), .val (.int (3 : Int32)), .val (.int ((((u0 &&& (15 : Int32)) <<< ((12 : Int32) &&& 31)) ||| ((u1 &&& (63 : Int32)) <<< ((6 : Int32) &&& 31))) ||| (u2 &&& (63 : Int32)))), .val (.int (2048 : Int32))] [(.int u1)])) rfl (by rw [hml]; rfl) (argsL := [(.int u1)]) (rest := []) (lenOf pd_0 rfl) rfl (by show 2 * 0 + _ ≤ _; exact Nat.le_of_eq rfl) (hb hby d2_146) (fun _ _ => ⟨rfl, e0, (by decide : 0 + 0 ≤ _), (by decide : 0 + 0 ≤ _)⟩)
        dsimp only [Pt.U, Pt.locs, Pt.cells, Pt.slots] at X12 l12 y12 z12 st12 hQ12
        subst l12 y12 z12
        obtain ⟨rfl, rfl, e12⟩ := hQ12
        refine Gl.go ?_ st12
        show Gl _ _ _ _ (T12.setTop (mkF m 149 #[.val (.int u0), .val (.int u1), .val (.int u2), .val (.int u3), .val (.int i), .val (.int to), .val (.int (3 : Int32)), .val (.int ((((u0 &&& (15 : Int32)) <<< ((12 : Int32) &&& 31)) ||| ((u1 &&& (63 : Int32)) <<< ((6 : Int32) &&& 31))) ||| (u2 &&& (63 : Int32)))), .val (.int (2048 : Int32))] [(.int (f_cont u1))]))
        by_cases hc13 : (f_cont u1) = (0 : Int32)
        · refine Gl.go ?_ (fun t k => XS.ifNo X12.here hx rfl (hb hby d2_149) rfl ((if0 _ _).trans (teq hc13).2) k)
          show Gl _ _ _ _ (T12.setTop (mkF m 152 #[.val (.int u0), .val (.int u1), .val (.int u2), .val (.int u3), .val (.int i), .val (.int to), .val (.int (3 : Int32)), .val (.int ((((u0 &&& (15 : Int32)) <<< ((12 : Int32) &&& 31)) ||| ((u1 &&& (63 : Int32)) <<< ((6 : Int32) &&& 31))) ||| (u2 &&& (63 : Int32)))), .val (.int (2048 : Int32))] []))
          refine Gl.go ?_ (fun t k => XS.iconst X12.here hx rfl (hb hby d2_152) k)
          show Gl _ _ _ _ (T12.setTop (mkF m 153 #[.val (.int u0), .val (.int u1), .val (.int u2), .val (.int u3), .val (.int i), .val (.int to), .val (.int (3 : Int32)), .val (.int ((((u0 &&& (15 : Int32)) <<< ((12 : Int32) &&& 31)) ||| ((u1 &&& (63 : Int32)) <<< ((6 : Int32) &&& 31))) ||| (u2 &&& (63 : Int32)))), .val (.int (2048 : Int32))] [(.int (-1 : Int32))]))
          obtain ⟨fs, hr, hrun, hended, hW, hsame⟩ := X12.leave (v := some (.int (-1 : Int32))) (fun h => by rw [Bd.returns] at h; cases h) (BodyLoose.notSynchronized Bd)
          exact Gl.mk ⟨_, _, retI X12 hx Bd.returns (hb hby d2_153) hr, hrun, hended, _, _, rfl, ⟨congrArg (fun z => some (Value.int z)) ((if_neg hc2).trans ((if_pos hc10).trans ((if_neg hc11).trans ((if_pos hc13).trans (rfl))))).symm, rfl, e12⟩, ⟨_, rfl⟩, hW, hsame.mono (by decide) (by decide)⟩
        · refine Gl.go ?_ (fun t k => XS.ifYes X12.here hx rfl (pc0 := 149) (pc' := 154) rfl (hb hby d2_149) rfl ((if0 _ _).trans (feq hc13).2) (by decide) (by decide) k)
          show Gl _ _ _ _ (T12.setTop (mkF m 154 #[.val (.int u0), .val (.int u1), .val (.int u2), .val (.int u3), .val (.int i), .val (.int to), .val (.int (3 : Int32)), .val (.int ((((u0 &&& (15 : Int32)) <<< ((12 : Int32) &&& 31)) ||| ((u1 &&& (63 : Int32)) <<< ((6 : Int32) &&& 31))) ||| (u2 &&& (63 : Int32)))), .val (.int (2048 : Int32))] []))
          refine Gl.go ?_ (fun t k => XS.iload X12.here hx rfl (hb hby d2_154) rfl k)
          show Gl _ _ _ _ (T12.setTop (mkF m 156 #[.val (.int u0), .val (.int u1), .val (.int u2), .val (.int u3), .val (.int i), .val (.int to), .val (.int (3 : Int32)), .val (.int ((((u0 &&& (15 : Int32)) <<< ((12 : Int32) &&& 31)) ||| ((u1 &&& (63 : Int32)) <<< ((6 : Int32) &&& 31))) ||| (u2 &&& (63 : Int32)))), .val (.int (2048 : Int32))] [(.int (3 : Int32))]))
          refine Gl.go ?_ (fun t k => XS.iconst X12.here hx rfl (hb hby d2_156) k)
          show Gl _ _ _ _ (T12.setTop (mkF m 157 #[.val (.int u0), .val (.int u1), .val (.int u2), .val (.int u3), .val (.int i), .val (.int to), .val (.int (3 : Int32)), .val (.int ((((u0 &&& (15 : Int32)) <<< ((12 : Int32) &&& 31)) ||| ((u1 &&& (63 : Int32)) <<< ((6 : Int32) &&& 31))) ||| (u2 &&& (63 : Int32)))), .val (.int (2048 : Int32))] [(.int (3 : Int32)), (.int (3 : Int32))]))
          refine Gl.go ?_ (fun t k => XS.icmpNo X12.here hx rfl (hb hby d2_157) rfl (flt (by decide : ¬ ((3 : Int32) < (3 : Int32)))).1 k)
          show Gl _ _ _ _ (T12.setTop (mkF m 160 #[.val (.int u0), .val (.int u1), .val (.int u2), .val (.int u3), .val (.int i), .val (.int to), .val (.int (3 : Int32)), .val (.int ((((u0 &&& (15 : Int32)) <<< ((12 : Int32) &&& 31)) ||| ((u1 &&& (63 : Int32)) <<< ((6 : Int32) &&& 31))) ||| (u2 &&& (63 : Int32)))), .val (.int (2048 : Int32))] []))
          refine Gl.go ?_ (fun t k => XS.iloadN X12.here hx rfl (hb hby d2_160) rfl k)
          show Gl _ _ _ _ (T12.setTop (mkF m 161 #[.val (.int u0), .val (.int u1), .val (.int u2), .val (.int u3), .val (.int i), .val (.int to), .val (.int (3 : Int32)), .val (.int ((((u0 &&& (15 : Int32)) <<< ((12 : Int32) &&& 31)) ||| ((u1 &&& (63 : Int32)) <<< ((6 : Int32) &&& 31))) ||| (u2 &&& (63 : Int32)))), .val (.int (2048 : Int32))] [(.int u2)]))
          obtain ⟨_, _, ⟨T14, L14, k14, n14⟩, -, X14, ⟨Lc14, hQ14, l14, y14, z14⟩, st14⟩ := Jvm.LawKit.callS X12 hx (y := (⟨"com/example/litera/litera/Utf8SequenceEndPinLaw", "isCont", "(I)Z"⟩ : MethodName)) hown (mvT hZ (hw _ (List.mem_of_getElem? (i := 10) rfl))) (mvT hZ (hw _ (List.mem_of_getElem? (i := 11) rfl))) (mvT hZ (hw _ (List.mem_of_getElem? (i := 8) rfl))) (mvT hZ (hw _ (List.mem_of_getElem? (i := 12) rfl))) (by decide) (backOf (W := 0) (rm3 l Z a0 hw [] u2 h0) hZ (hw _ (List.mem_of_getElem? (i := 12) rfl)) (hw _ (List.mem_of_getElem? (i := 8) rfl)) (by decide) (by decide)) (g := (mkF m 161 #[.val (.int u0), .val (.int u1), .val (.int u2), .val (.int u3), .val (.int i), .val (.int to), .val (.int (3 : Int32)), .val (.int ((((u0 &&& (15 : Int32)) <<< ((12 : Int32) &&& 31)) ||| ((u1 &&& (63 : Int32)) <<< ((6 : Int32) &&& 31))) ||| (u2 &&& (63 : Int32)))), .val (.int (2048 : Int32))] [(.int u2)])) rfl (by rw [hml]; rfl) (argsL := [(.int u2)]) (rest := []) (lenOf pd_0 rfl) rfl (by show 2 * 0 + _ ≤ _; exact Nat.le_of_eq rfl) (hb hby d2_161) (fun _ _ => ⟨rfl, e12, (by decide : 0 + 0 ≤ _), (by decide : 0 + 0 ≤ _)⟩)
          dsimp only [Pt.U, Pt.locs, Pt.cells, Pt.slots] at X14 l14 y14 z14 st14 hQ14
          subst l14 y14 z14
          obtain ⟨rfl, rfl, e14⟩ := hQ14
          refine Gl.go ?_ st14
          show Gl _ _ _ _ (T14.setTop (mkF m 164 #[.val (.int u0), .val (.int u1), .val (.int u2), .val (.int u3), .val (.int i), .val (.int to), .val (.int (3 : Int32)), .val (.int ((((u0 &&& (15 : Int32)) <<< ((12 : Int32) &&& 31)) ||| ((u1 &&& (63 : Int32)) <<< ((6 : Int32) &&& 31))) ||| (u2 &&& (63 : Int32)))), .val (.int (2048 : Int32))] [(.int (f_cont u2))]))
          by_cases hc15 : (f_cont u2) = (0 : Int32)
          · refine Gl.go ?_ (fun t k => XS.ifNo X14.here hx rfl (hb hby d2_164) rfl ((if0 _ _).trans (teq hc15).2) k)
            show Gl _ _ _ _ (T14.setTop (mkF m 167 #[.val (.int u0), .val (.int u1), .val (.int u2), .val (.int u3), .val (.int i), .val (.int to), .val (.int (3 : Int32)), .val (.int ((((u0 &&& (15 : Int32)) <<< ((12 : Int32) &&& 31)) ||| ((u1 &&& (63 : Int32)) <<< ((6 : Int32) &&& 31))) ||| (u2 &&& (63 : Int32)))), .val (.int (2048 : Int32))] []))
            refine Gl.go ?_ (fun t k => XS.iconst X14.here hx rfl (hb hby d2_167) k)
            show Gl _ _ _ _ (T14.setTop (mkF m 168 #[.val (.int u0), .val (.int u1), .val (.int u2), .val (.int u3), .val (.int i), .val (.int to), .val (.int (3 : Int32)), .val (.int ((((u0 &&& (15 : Int32)) <<< ((12 : Int32) &&& 31)) ||| ((u1 &&& (63 : Int32)) <<< ((6 : Int32) &&& 31))) ||| (u2 &&& (63 : Int32)))), .val (.int (2048 : Int32))] [(.int (-1 : Int32))]))
            obtain ⟨fs, hr, hrun, hended, hW, hsame⟩ := X14.leave (v := some (.int (-1 : Int32))) (fun h => by rw [Bd.returns] at h; cases h) (BodyLoose.notSynchronized Bd)
            exact Gl.mk ⟨_, _, retI X14 hx Bd.returns (hb hby d2_168) hr, hrun, hended, _, _, rfl, ⟨congrArg (fun z => some (Value.int z)) ((if_neg hc2).trans ((if_pos hc10).trans ((if_neg hc11).trans ((if_neg hc13).trans ((if_pos hc15).trans (rfl)))))).symm, rfl, e14⟩, ⟨_, rfl⟩, hW, hsame.mono (by decide) (by decide)⟩
          · refine Gl.go ?_ (fun t k => XS.ifYes X14.here hx rfl (pc0 := 164) (pc' := 169) rfl (hb hby d2_164) rfl ((if0 _ _).trans (feq hc15).2) (by decide) (by decide) k)
            show Gl _ _ _ _ (T14.setTop (mkF m 169 #[.val (.int u0), .val (.int u1), .val (.int u2), .val (.int u3), .val (.int i), .val (.int to), .val (.int (3 : Int32)), .val (.int ((((u0 &&& (15 : Int32)) <<< ((12 : Int32) &&& 31)) ||| ((u1 &&& (63 : Int32)) <<< ((6 : Int32) &&& 31))) ||| (u2 &&& (63 : Int32)))), .val (.int (2048 : Int32))] []))
            refine Gl.go ?_ (fun t k => XS.iload X14.here hx rfl (hb hby d2_169) rfl k)
            show Gl _ _ _ _ (T14.setTop (mkF m 171 #[.val (.int u0), .val (.int u1), .val (.int u2), .val (.int u3), .val (.int i), .val (.int to), .val (.int (3 : Int32)), .val (.int ((((u0 &&& (15 : Int32)) <<< ((12 : Int32) &&& 31)) ||| ((u1 &&& (63 : Int32)) <<< ((6 : Int32) &&& 31))) ||| (u2 &&& (63 : Int32)))), .val (.int (2048 : Int32))] [(.int (3 : Int32))]))
            refine Gl.go ?_ (fun t k => XS.iconst X14.here hx rfl (hb hby d2_171) k)
            show Gl _ _ _ _ (T14.setTop (mkF m 172 #[.val (.int u0), .val (.int u1), .val (.int u2), .val (.int u3), .val (.int i), .val (.int to), .val (.int (3 : Int32)), .val (.int ((((u0 &&& (15 : Int32)) <<< ((12 : Int32) &&& 31)) ||| ((u1 &&& (63 : Int32)) <<< ((6 : Int32) &&& 31))) ||| (u2 &&& (63 : Int32)))), .val (.int (2048 : Int32))] [(.int (4 : Int32)), (.int (3 : Int32))]))
            refine Gl.go ?_ (fun t k => XS.icmpYes X14.here hx rfl (pc0 := 172) (pc' := 184) rfl (hb hby d2_172) rfl (feq (by decide : ¬ ((3 : Int32) = (4 : Int32)))).2 (by decide) (by decide) k)
            show Gl _ _ _ _ (T14.setTop (mkF m 184 #[.val (.int u0), .val (.int u1), .val (.int u2), .val (.int u3), .val (.int i), .val (.int to), .val (.int (3 : Int32)), .val (.int ((((u0 &&& (15 : Int32)) <<< ((12 : Int32) &&& 31)) ||| ((u1 &&& (63 : Int32)) <<< ((6 : Int32) &&& 31))) ||| (u2 &&& (63 : Int32)))), .val (.int (2048 : Int32))] []))
            refine Gl.go ?_ (fun t k => XS.iload X14.here hx rfl (hb hby d2_184) rfl k)
            show Gl _ _ _ _ (T14.setTop (mkF m 186 #[.val (.int u0), .val (.int u1), .val (.int u2), .val (.int u3), .val (.int i), .val (.int to), .val (.int (3 : Int32)), .val (.int ((((u0 &&& (15 : Int32)) <<< ((12 : Int32) &&& 31)) ||| ((u1 &&& (63 : Int32)) <<< ((6 : Int32) &&& 31))) ||| (u2 &&& (63 : Int32)))), .val (.int (2048 : Int32))] [(.int ((((u0 &&& (15 : Int32)) <<< ((12 : Int32) &&& 31)) ||| ((u1 &&& (63 : Int32)) <<< ((6 : Int32) &&& 31))) ||| (u2 &&& (63 : Int32))))]))
            refine Gl.go ?_ (fun t k => XS.iload X14.here hx rfl (hb hby d2_186) rfl k)
            show Gl _ _ _ _ (T14.setTop (mkF m 188 #[.val (.int u0), .val (.int u1), .val (.int u2), .val (.int u3), .val (.int i), .val (.int to), .val (.int (3 : Int32)), .val (.int ((((u0 &&& (15 : Int32)) <<< ((12 : Int32) &&& 31)) ||| ((u1 &&& (63 : Int32)) <<< ((6 : Int32) &&& 31))) ||| (u2 &&& (63 : Int32)))), .val (.int (2048 : Int32))] [(.int (2048 : Int32)), (.int ((((u0 &&& (15 : Int32)) <<< ((12 : Int32) &&& 31)) ||| ((u1 &&& (63 : Int32)) <<< ((6 : Int32) &&& 31))) ||| (u2 &&& (63 : Int32))))]))
            by_cases hc16 : ((((u0 &&& (15 : Int32)) <<< ((12 : Int32) &&& 31)) ||| ((u1 &&& (63 : Int32)) <<< ((6 : Int32) &&& 31))) ||| (u2 &&& (63 : Int32))) < (2048 : Int32)
            · refine Gl.go ?_ (fun t k => XS.icmpYes X14.here hx rfl (pc0 := 188) (pc' := 198) rfl (hb hby d2_188) rfl (tlt hc16).1 (by decide) (by decide) k)
              show Gl _ _ _ _ (T14.setTop (mkF m 198 #[.val (.int u0), .val (.int u1), .val (.int u2), .val (.int u3), .val (.int i), .val (.int to), .val (.int (3 : Int32)), .val (.int ((((u0 &&& (15 : Int32)) <<< ((12 : Int32) &&& 31)) ||| ((u1 &&& (63 : Int32)) <<< ((6 : Int32) &&& 31))) ||| (u2 &&& (63 : Int32)))), .val (.int (2048 : Int32))] []))
              refine Gl.go ?_ (fun t k => XS.iconst X14.here hx rfl (hb hby d2_198) k)
              show Gl _ _ _ _ (T14.setTop (mkF m 199 #[.val (.int u0), .val (.int u1), .val (.int u2), .val (.int u3), .val (.int i), .val (.int to), .val (.int (3 : Int32)), .val (.int ((((u0 &&& (15 : Int32)) <<< ((12 : Int32) &&& 31)) ||| ((u1 &&& (63 : Int32)) <<< ((6 : Int32) &&& 31))) ||| (u2 &&& (63 : Int32)))), .val (.int (2048 : Int32))] [(.int (-1 : Int32))]))
              obtain ⟨fs, hr, hrun, hended, hW, hsame⟩ := X14.leave (v := some (.int (-1 : Int32))) (fun h => by rw [Bd.returns] at h; cases h) (BodyLoose.notSynchronized Bd)
              exact Gl.mk ⟨_, _, retI X14 hx Bd.returns (hb hby d2_199) hr, hrun, hended, _, _, rfl, ⟨congrArg (fun z => some (Value.int z)) ((if_neg hc2).trans ((if_pos hc10).trans ((if_neg hc11).trans ((if_neg hc13).trans ((if_neg hc15).trans ((if_pos hc16).trans (rfl))))))).symm, rfl, e14⟩, ⟨_, rfl⟩, hW, hsame.mono (by decide) (by decide)⟩
            · refine Gl.go ?_ (fun t k => XS.icmpNo X14.here hx rfl (hb hby d2_188) rfl (flt hc16).1 k)
              show Gl _ _ _ _ (T14.setTop (mkF m 191 #[.val (.int u0), .val (.int u1), .val (.int u2), .val (.int u3), .val (.int i), .val (.int to), .val (.int (3 : Int32)), .val (.int ((((u0 &&& (15 : Int32)) <<< ((12 : Int32) &&& 31)) ||| ((u1 &&& (63 : Int32)) <<< ((6 : Int32) &&& 31))) ||| (u2 &&& (63 : Int32)))), .val (.int (2048 : Int32))] []))
              refine Gl.go ?_ (fun t k => XS.iload X14.here hx rfl (hb hby d2_191) rfl k)
              show Gl _ _ _ _ (T14.setTop (mkF m 193 #[.val (.int u0), .val (.int u1), .val (.int u2), .val (.int u3), .val (.int i), .val (.int to), .val (.int (3 : Int32)), .val (.int ((((u0 &&& (15 : Int32)) <<< ((12 : Int32) &&& 31)) ||| ((u1 &&& (63 : Int32)) <<< ((6 : Int32) &&& 31))) ||| (u2 &&& (63 : Int32)))), .val (.int (2048 : Int32))] [(.int ((((u0 &&& (15 : Int32)) <<< ((12 : Int32) &&& 31)) ||| ((u1 &&& (63 : Int32)) <<< ((6 : Int32) &&& 31))) ||| (u2 &&& (63 : Int32))))]))
              refine Gl.go ?_ (X14.ldcInt hx hown (mvT hZ (hw _ (List.mem_of_getElem? (i := 13) rfl))) (g := (mkF m 193 #[.val (.int u0), .val (.int u1), .val (.int u2), .val (.int u3), .val (.int i), .val (.int to), .val (.int (3 : Int32)), .val (.int ((((u0 &&& (15 : Int32)) <<< ((12 : Int32) &&& 31)) ||| ((u1 &&& (63 : Int32)) <<< ((6 : Int32) &&& 31))) ||| (u2 &&& (63 : Int32)))), .val (.int (2048 : Int32))] [(.int ((((u0 &&& (15 : Int32)) <<< ((12 : Int32) &&& 31)) ||| ((u1 &&& (63 : Int32)) <<< ((6 : Int32) &&& 31))) ||| (u2 &&& (63 : Int32))))])) rfl (hb hby d2_193))
              show Gl _ _ _ _ (T14.setTop (mkF m 195 #[.val (.int u0), .val (.int u1), .val (.int u2), .val (.int u3), .val (.int i), .val (.int to), .val (.int (3 : Int32)), .val (.int ((((u0 &&& (15 : Int32)) <<< ((12 : Int32) &&& 31)) ||| ((u1 &&& (63 : Int32)) <<< ((6 : Int32) &&& 31))) ||| (u2 &&& (63 : Int32)))), .val (.int (2048 : Int32))] [(.int (1114111 : Int32)), (.int ((((u0 &&& (15 : Int32)) <<< ((12 : Int32) &&& 31)) ||| ((u1 &&& (63 : Int32)) <<< ((6 : Int32) &&& 31))) ||| (u2 &&& (63 : Int32))))]))
              by_cases hc17 : (1114111 : Int32) < ((((u0 &&& (15 : Int32)) <<< ((12 : Int32) &&& 31)) ||| ((u1 &&& (63 : Int32)) <<< ((6 : Int32) &&& 31))) ||| (u2 &&& (63 : Int32)))
              · refine Gl.go ?_ (fun t k => XS.icmpNo X14.here hx rfl (hb hby d2_195) rfl (tlt hc17).2.2.2 k)
                show Gl _ _ _ _ (T14.setTop (mkF m 198 #[.val (.int u0), .val (.int u1), .val (.int u2), .val (.int u3), .val (.int i), .val (.int to), .val (.int (3 : Int32)), .val (.int ((((u0 &&& (15 : Int32)) <<< ((12 : Int32) &&& 31)) ||| ((u1 &&& (63 : Int32)) <<< ((6 : Int32) &&& 31))) ||| (u2 &&& (63 : Int32)))), .val (.int (2048 : Int32))] []))
                refine Gl.go ?_ (fun t k => XS.iconst X14.here hx rfl (hb hby d2_198) k)
                show Gl _ _ _ _ (T14.setTop (mkF m 199 #[.val (.int u0), .val (.int u1), .val (.int u2), .val (.int u3), .val (.int i), .val (.int to), .val (.int (3 : Int32)), .val (.int ((((u0 &&& (15 : Int32)) <<< ((12 : Int32) &&& 31)) ||| ((u1 &&& (63 : Int32)) <<< ((6 : Int32) &&& 31))) ||| (u2 &&& (63 : Int32)))), .val (.int (2048 : Int32))] [(.int (-1 : Int32))]))
                obtain ⟨fs, hr, hrun, hended, hW, hsame⟩ := X14.leave (v := some (.int (-1 : Int32))) (fun h => by rw [Bd.returns] at h; cases h) (BodyLoose.notSynchronized Bd)
                exact Gl.mk ⟨_, _, retI X14 hx Bd.returns (hb hby d2_199) hr, hrun, hended, _, _, rfl, ⟨congrArg (fun z => some (Value.int z)) ((if_neg hc2).trans ((if_pos hc10).trans ((if_neg hc11).trans ((if_neg hc13).trans ((if_neg hc15).trans ((if_neg hc16).trans ((if_pos hc17).trans (rfl)))))))).symm, rfl, e14⟩, ⟨_, rfl⟩, hW, hsame.mono (by decide) (by decide)⟩
              · refine Gl.go ?_ (fun t k => XS.icmpYes X14.here hx rfl (pc0 := 195) (pc' := 200) rfl (hb hby d2_195) rfl (flt hc17).2.2.2 (by decide) (by decide) k)
                show Gl _ _ _ _ (T14.setTop (mkF m 200 #[.val (.int u0), .val (.int u1), .val (.int u2), .val (.int u3), .val (.int i), .val (.int to), .val (.int (3 : Int32)), .val (.int ((((u0 &&& (15 : Int32)) <<< ((12 : Int32) &&& 31)) ||| ((u1 &&& (63 : Int32)) <<< ((6 : Int32) &&& 31))) ||| (u2 &&& (63 : Int32)))), .val (.int (2048 : Int32))] []))
                refine Gl.go ?_ (fun t k => XS.iload X14.here hx rfl (hb hby d2_200) rfl k)
                show Gl _ _ _ _ (T14.setTop (mkF m 202 #[.val (.int u0), .val (.int u1), .val (.int u2), .val (.int u3), .val (.int i), .val (.int to), .val (.int (3 : Int32)), .val (.int ((((u0 &&& (15 : Int32)) <<< ((12 : Int32) &&& 31)) ||| ((u1 &&& (63 : Int32)) <<< ((6 : Int32) &&& 31))) ||| (u2 &&& (63 : Int32)))), .val (.int (2048 : Int32))] [(.int ((((u0 &&& (15 : Int32)) <<< ((12 : Int32) &&& 31)) ||| ((u1 &&& (63 : Int32)) <<< ((6 : Int32) &&& 31))) ||| (u2 &&& (63 : Int32))))]))
                refine Gl.go ?_ (X14.ldcInt hx hown (mvT hZ (hw _ (List.mem_of_getElem? (i := 14) rfl))) (g := (mkF m 202 #[.val (.int u0), .val (.int u1), .val (.int u2), .val (.int u3), .val (.int i), .val (.int to), .val (.int (3 : Int32)), .val (.int ((((u0 &&& (15 : Int32)) <<< ((12 : Int32) &&& 31)) ||| ((u1 &&& (63 : Int32)) <<< ((6 : Int32) &&& 31))) ||| (u2 &&& (63 : Int32)))), .val (.int (2048 : Int32))] [(.int ((((u0 &&& (15 : Int32)) <<< ((12 : Int32) &&& 31)) ||| ((u1 &&& (63 : Int32)) <<< ((6 : Int32) &&& 31))) ||| (u2 &&& (63 : Int32))))])) rfl (hb hby d2_202))
                show Gl _ _ _ _ (T14.setTop (mkF m 204 #[.val (.int u0), .val (.int u1), .val (.int u2), .val (.int u3), .val (.int i), .val (.int to), .val (.int (3 : Int32)), .val (.int ((((u0 &&& (15 : Int32)) <<< ((12 : Int32) &&& 31)) ||| ((u1 &&& (63 : Int32)) <<< ((6 : Int32) &&& 31))) ||| (u2 &&& (63 : Int32)))), .val (.int (2048 : Int32))] [(.int (55296 : Int32)), (.int ((((u0 &&& (15 : Int32)) <<< ((12 : Int32) &&& 31)) ||| ((u1 &&& (63 : Int32)) <<< ((6 : Int32) &&& 31))) ||| (u2 &&& (63 : Int32))))]))
                by_cases hc18 : ((((u0 &&& (15 : Int32)) <<< ((12 : Int32) &&& 31)) ||| ((u1 &&& (63 : Int32)) <<< ((6 : Int32) &&& 31))) ||| (u2 &&& (63 : Int32))) < (55296 : Int32)
                · refine Gl.go ?_ (fun t k => XS.icmpYes X14.here hx rfl (pc0 := 204) (pc' := 216) rfl (hb hby d2_204) rfl (tlt hc18).1 (by decide) (by decide) k)
                  show Gl _ _ _ _ (T14.setTop (mkF m 216 #[.val (.int u0), .val (.int u1), .val (.int u2), .val (.int u3), .val (.int i), .val (.int to), .val (.int (3 : Int32)), .val (.int ((((u0 &&& (15 : Int32)) <<< ((12 : Int32) &&& 31)) ||| ((u1 &&& (63 : Int32)) <<< ((6 : Int32) &&& 31))) ||| (u2 &&& (63 : Int32)))), .val (.int (2048 : Int32))] []))
                  refine Gl.go ?_ (fun t k => XS.iload X14.here hx rfl (hb hby d2_216) rfl k)
                  show Gl _ _ _ _ (T14.setTop (mkF m 218 #[.val (.int u0), .val (.int u1), .val (.int u2), .val (.int u3), .val (.int i), .val (.int to), .val (.int (3 : Int32)), .val (.int ((((u0 &&& (15 : Int32)) <<< ((12 : Int32) &&& 31)) ||| ((u1 &&& (63 : Int32)) <<< ((6 : Int32) &&& 31))) ||| (u2 &&& (63 : Int32)))), .val (.int (2048 : Int32))] [(.int i)]))
                  refine Gl.go ?_ (fun t k => XS.iload X14.here hx rfl (hb hby d2_218) rfl k)
                  show Gl _ _ _ _ (T14.setTop (mkF m 220 #[.val (.int u0), .val (.int u1), .val (.int u2), .val (.int u3), .val (.int i), .val (.int to), .val (.int (3 : Int32)), .val (.int ((((u0 &&& (15 : Int32)) <<< ((12 : Int32) &&& 31)) ||| ((u1 &&& (63 : Int32)) <<< ((6 : Int32) &&& 31))) ||| (u2 &&& (63 : Int32)))), .val (.int (2048 : Int32))] [(.int (3 : Int32)), (.int i)]))
                  refine Gl.go ?_ (fun t k => XS.iadd X14.here hx rfl (hb hby d2_220) rfl k)
                  show Gl _ _ _ _ (T14.setTop (mkF m 221 #[.val (.int u0), .val (.int u1), .val (.int u2), .val (.int u3), .val (.int i), .val (.int to), .val (.int (3 : Int32)), .val (.int ((((u0 &&& (15 : Int32)) <<< ((12 : Int32) &&& 31)) ||| ((u1 &&& (63 : Int32)) <<< ((6 : Int32) &&& 31))) ||| (u2 &&& (63 : Int32)))), .val (.int (2048 : Int32))] [(.int (i + (3 : Int32)))]))
                  obtain ⟨fs, hr, hrun, hended, hW, hsame⟩ := X14.leave (v := some (.int (i + (3 : Int32)))) (fun h => by rw [Bd.returns] at h; cases h) (BodyLoose.notSynchronized Bd)
                  exact Gl.mk ⟨_, _, retI X14 hx Bd.returns (hb hby d2_221) hr, hrun, hended, _, _, rfl, ⟨congrArg (fun z => some (Value.int z)) ((if_neg hc2).trans ((if_pos hc10).trans ((if_neg hc11).trans ((if_neg hc13).trans ((if_neg hc15).trans ((if_neg hc16).trans ((if_neg hc17).trans ((if_pos hc18).trans (rfl))))))))).symm, rfl, e14⟩, ⟨_, rfl⟩, hW, hsame.mono (by decide) (by decide)⟩
                · refine Gl.go ?_ (fun t k => XS.icmpNo X14.here hx rfl (hb hby d2_204) rfl (flt hc18).1 k)
                  show Gl _ _ _ _ (T14.setTop (mkF m 207 #[.val (.int u0), .val (.int u1), .val (.int u2), .val (.int u3), .val (.int i), .val (.int to), .val (.int (3 : Int32)), .val (.int ((((u0 &&& (15 : Int32)) <<< ((12 : Int32) &&& 31)) ||| ((u1 &&& (63 : Int32)) <<< ((6 : Int32) &&& 31))) ||| (u2 &&& (63 : Int32)))), .val (.int (2048 : Int32))] []))
                  refine Gl.go ?_ (fun t k => XS.iload X14.here hx rfl (hb hby d2_207) rfl k)
                  show Gl _ _ _ _ (T14.setTop (mkF m 209 #[.val (.int u0), .val (.int u1), .val (.int u2), .val (.int u3), .val (.int i), .val (.int to), .val (.int (3 : Int32)), .val (.int ((((u0 &&& (15 : Int32)) <<< ((12 : Int32) &&& 31)) ||| ((u1 &&& (63 : Int32)) <<< ((6 : Int32) &&& 31))) ||| (u2 &&& (63 : Int32)))), .val (.int (2048 : Int32))] [(.int ((((u0 &&& (15 : Int32)) <<< ((12 : Int32) &&& 31)) ||| ((u1 &&& (63 : Int32)) <<< ((6 : Int32) &&& 31))) ||| (u2 &&& (63 : Int32))))]))
                  refine Gl.go ?_ (X14.ldcInt hx hown (mvT hZ (hw _ (List.mem_of_getElem? (i := 16) rfl))) (g := (mkF m 209 #[.val (.int u0), .val (.int u1), .val (.int u2), .val (.int u3), .val (.int i), .val (.int to), .val (.int (3 : Int32)), .val (.int ((((u0 &&& (15 : Int32)) <<< ((12 : Int32) &&& 31)) ||| ((u1 &&& (63 : Int32)) <<< ((6 : Int32) &&& 31))) ||| (u2 &&& (63 : Int32)))), .val (.int (2048 : Int32))] [(.int ((((u0 &&& (15 : Int32)) <<< ((12 : Int32) &&& 31)) ||| ((u1 &&& (63 : Int32)) <<< ((6 : Int32) &&& 31))) ||| (u2 &&& (63 : Int32))))])) rfl (hb hby d2_209))
                  show Gl _ _ _ _ (T14.setTop (mkF m 211 #[.val (.int u0), .val (.int u1), .val (.int u2), .val (.int u3), .val (.int i), .val (.int to), .val (.int (3 : Int32)), .val (.int ((((u0 &&& (15 : Int32)) <<< ((12 : Int32) &&& 31)) ||| ((u1 &&& (63 : Int32)) <<< ((6 : Int32) &&& 31))) ||| (u2 &&& (63 : Int32)))), .val (.int (2048 : Int32))] [(.int (57343 : Int32)), (.int ((((u0 &&& (15 : Int32)) <<< ((12 : Int32) &&& 31)) ||| ((u1 &&& (63 : Int32)) <<< ((6 : Int32) &&& 31))) ||| (u2 &&& (63 : Int32))))]))
                  by_cases hc19 : (57343 : Int32) < ((((u0 &&& (15 : Int32)) <<< ((12 : Int32) &&& 31)) ||| ((u1 &&& (63 : Int32)) <<< ((6 : Int32) &&& 31))) ||| (u2 &&& (63 : Int32)))
                  · refine Gl.go ?_ (fun t k => XS.icmpYes X14.here hx rfl (pc0 := 211) (pc' := 216) rfl (hb hby d2_211) rfl (tlt hc19).2.2.1 (by decide) (by decide) k)
                    show Gl _ _ _ _ (T14.setTop (mkF m 216 #[.val (.int u0), .val (.int u1), .val (.int u2), .val (.int u3), .val (.int i), .val (.int to), .val (.int (3 : Int32)), .val (.int ((((u0 &&& (15 : Int32)) <<< ((12 : Int32) &&& 31)) ||| ((u1 &&& (63 : Int32)) <<< ((6 : Int32) &&& 31))) ||| (u2 &&& (63 : Int32)))), .val (.int (2048 : Int32))] []))
                    refine Gl.go ?_ (fun t k => XS.iload X14.here hx rfl (hb hby d2_216) rfl k)
                    show Gl _ _ _ _ (T14.setTop (mkF m 218 #[.val (.int u0), .val (.int u1), .val (.int u2), .val (.int u3), .val (.int i), .val (.int to), .val (.int (3 : Int32)), .val (.int ((((u0 &&& (15 : Int32)) <<< ((12 : Int32) &&& 31)) ||| ((u1 &&& (63 : Int32)) <<< ((6 : Int32) &&& 31))) ||| (u2 &&& (63 : Int32)))), .val (.int (2048 : Int32))] [(.int i)]))
                    refine Gl.go ?_ (fun t k => XS.iload X14.here hx rfl (hb hby d2_218) rfl k)
                    show Gl _ _ _ _ (T14.setTop (mkF m 220 #[.val (.int u0), .val (.int u1), .val (.int u2), .val (.int u3), .val (.int i), .val (.int to), .val (.int (3 : Int32)), .val (.int ((((u0 &&& (15 : Int32)) <<< ((12 : Int32) &&& 31)) ||| ((u1 &&& (63 : Int32)) <<< ((6 : Int32) &&& 31))) ||| (u2 &&& (63 : Int32)))), .val (.int (2048 : Int32))] [(.int (3 : Int32)), (.int i)]))
                    refine Gl.go ?_ (fun t k => XS.iadd X14.here hx rfl (hb hby d2_220) rfl k)
                    show Gl _ _ _ _ (T14.setTop (mkF m 221 #[.val (.int u0), .val (.int u1), .val (.int u2), .val (.int u3), .val (.int i), .val (.int to), .val (.int (3 : Int32)), .val (.int ((((u0 &&& (15 : Int32)) <<< ((12 : Int32) &&& 31)) ||| ((u1 &&& (63 : Int32)) <<< ((6 : Int32) &&& 31))) ||| (u2 &&& (63 : Int32)))), .val (.int (2048 : Int32))] [(.int (i + (3 : Int32)))]))
                    obtain ⟨fs, hr, hrun, hended, hW, hsame⟩ := X14.leave (v := some (.int (i + (3 : Int32)))) (fun h => by rw [Bd.returns] at h; cases h) (BodyLoose.notSynchronized Bd)
                    exact Gl.mk ⟨_, _, retI X14 hx Bd.returns (hb hby d2_221) hr, hrun, hended, _, _, rfl, ⟨congrArg (fun z => some (Value.int z)) ((if_neg hc2).trans ((if_pos hc10).trans ((if_neg hc11).trans ((if_neg hc13).trans ((if_neg hc15).trans ((if_neg hc16).trans ((if_neg hc17).trans ((if_neg hc18).trans ((if_pos hc19).trans (rfl)))))))))).symm, rfl, e14⟩, ⟨_, rfl⟩, hW, hsame.mono (by decide) (by decide)⟩
                  · refine Gl.go ?_ (fun t k => XS.icmpNo X14.here hx rfl (hb hby d2_211) rfl (flt hc19).2.2.1 k)
                    show Gl _ _ _ _ (T14.setTop (mkF m 214 #[.val (.int u0), .val (.int u1), .val (.int u2), .val (.int u3), .val (.int i), .val (.int to), .val (.int (3 : Int32)), .val (.int ((((u0 &&& (15 : Int32)) <<< ((12 : Int32) &&& 31)) ||| ((u1 &&& (63 : Int32)) <<< ((6 : Int32) &&& 31))) ||| (u2 &&& (63 : Int32)))), .val (.int (2048 : Int32))] []))
                    refine Gl.go ?_ (fun t k => XS.iconst X14.here hx rfl (hb hby d2_214) k)
                    show Gl _ _ _ _ (T14.setTop (mkF m 215 #[.val (.int u0), .val (.int u1), .val (.int u2), .val (.int u3), .val (.int i), .val (.int to), .val (.int (3 : Int32)), .val (.int ((((u0 &&& (15 : Int32)) <<< ((12 : Int32) &&& 31)) ||| ((u1 &&& (63 : Int32)) <<< ((6 : Int32) &&& 31))) ||| (u2 &&& (63 : Int32)))), .val (.int (2048 : Int32))] [(.int (-1 : Int32))]))
                    obtain ⟨fs, hr, hrun, hended, hW, hsame⟩ := X14.leave (v := some (.int (-1 : Int32))) (fun h => by rw [Bd.returns] at h; cases h) (BodyLoose.notSynchronized Bd)
                    exact Gl.mk ⟨_, _, retI X14 hx Bd.returns (hb hby d2_215) hr, hrun, hended, _, _, rfl, ⟨congrArg (fun z => some (Value.int z)) ((if_neg hc2).trans ((if_pos hc10).trans ((if_neg hc11).trans ((if_neg hc13).trans ((if_neg hc15).trans ((if_neg hc16).trans ((if_neg hc17).trans ((if_neg hc18).trans ((if_neg hc19).trans (rfl)))))))))).symm, rfl, e14⟩, ⟨_, rfl⟩, hW, hsame.mono (by decide) (by decide)⟩
    · refine Gl.go ?_ (fun t k => XS.icmpYes X0.here hx rfl (pc0 := 44) (pc' := 80) rfl (hb hby d2_44) rfl (feq hc10).2 (by decide) (by decide) k)
      show Gl _ _ _ _ (s₁.setTop (mkF m 80 #[.val (.int u0), .val (.int u1), .val (.int u2), .val (.int u3), .val (.int i), .val (.int to), .unset, .unset, .unset] []))
      refine Gl.go ?_ (fun t k => XS.iloadN X0.here hx rfl (hb hby d2_80) rfl k)
      show Gl _ _ _ _ (s₁.setTop (mkF m 81 #[.val (.int u0), .val (.int u1), .val (.int u2), .val (.int u3), .val (.int i), .val (.int to), .unset, .unset, .unset] [(.int u0)]))
      refine Gl.go ?_ (fun t k => XS.sipush X0.here hx rfl (hb hby d2_81) k)
      show Gl _ _ _ _ (s₁.setTop (mkF m 84 #[.val (.int u0), .val (.int u1), .val (.int u2), .val (.int u3), .val (.int i), .val (.int to), .unset, .unset, .unset] [(.int (248 : Int32)), (.int u0)]))
      refine Gl.go ?_ (fun t k => XS.iand X0.here hx rfl (hb hby d2_84) rfl k)
      show Gl _ _ _ _ (s₁.setTop (mkF m 85 #[.val (.int u0), .val (.int u1), .val (.int u2), .val (.int u3), .val (.int i), .val (.int to), .unset, .unset, .unset] [(.int (u0 &&& (248 : Int32)))]))
      refine Gl.go ?_ (fun t k => XS.sipush X0.here hx rfl (hb hby d2_85) k)
      show Gl _ _ _ _ (s₁.setTop (mkF m 88 #[.val (.int u0), .val (.int u1), .val (.int u2), .val (.int u3), .val (.int i), .val (.int to), .unset, .unset, .unset] [(.int (240 : Int32)), (.int (u0 &&& (248 : Int32)))]))
      by_cases hc20 : (u0 &&& (248 : Int32)) = (240 : Int32)
      · refine Gl.go ?_ (fun t k => XS.icmpNo X0.here hx rfl (hb hby d2_88) rfl (teq hc20).2 k)
        show Gl _ _ _ _ (s₁.setTop (mkF m 91 #[.val (.int u0), .val (.int u1), .val (.int u2), .val (.int u3), .val (.int i), .val (.int to), .unset, .unset, .unset] []))
        refine Gl.go ?_ (fun t k => XS.iconst X0.here hx rfl (hb hby d2_91) k)
        show Gl _ _ _ _ (s₁.setTop (mkF m 92 #[.val (.int u0), .val (.int u1), .val (.int u2), .val (.int u3), .val (.int i), .val (.int to), .unset, .unset, .unset] [(.int (4 : Int32))]))
        refine Gl.go ?_ (fun t k => XS.istore X0.here hx rfl (hb hby d2_92) rfl (l' := #[.val (.int u0), .val (.int u1), .val (.int u2), .val (.int u3), .val (.int i), .val (.int to), .val (.int (4 : Int32)), .unset, .unset]) rfl k)
        show Gl _ _ _ _ (s₁.setTop (mkF m 94 #[.val (.int u0), .val (.int u1), .val (.int u2), .val (.int u3), .val (.int i), .val (.int to), .val (.int (4 : Int32)), .unset, .unset] []))
        refine Gl.go ?_ (fun t k => XS.iloadN X0.here hx rfl (hb hby d2_94) rfl k)
        show Gl _ _ _ _ (s₁.setTop (mkF m 95 #[.val (.int u0), .val (.int u1), .val (.int u2), .val (.int u3), .val (.int i), .val (.int to), .val (.int (4 : Int32)), .unset, .unset] [(.int u0)]))
        refine Gl.go ?_ (fun t k => XS.bipush X0.here hx rfl (hb hby d2_95) k)
        show Gl _ _ _ _ (s₁.setTop (mkF m 97 #[.val (.int u0), .val (.int u1), .val (.int u2), .val (.int u3), .val (.int i), .val (.int to), .val (.int (4 : Int32)), .unset, .unset] [(.int (7 : Int32)), (.int u0)]))
        refine Gl.go ?_ (fun t k => XS.iand X0.here hx rfl (hb hby d2_97) rfl k)
        show Gl _ _ _ _ (s₁.setTop (mkF m 98 #[.val (.int u0), .val (.int u1), .val (.int u2), .val (.int u3), .val (.int i), .val (.int to), .val (.int (4 : Int32)), .unset, .unset] [(.int (u0 &&& (7 : Int32)))]))
        refine Gl.go ?_ (fun t k => XS.bipush X0.here hx rfl (hb hby d2_98) k)
        show Gl _ _ _ _ (s₁.setTop (mkF m 100 #[.val (.int u0), .val (.int u1), .val (.int u2), .val (.int u3), .val (.int i), .val (.int to), .val (.int (4 : Int32)), .unset, .unset] [(.int (18 : Int32)), (.int (u0 &&& (7 : Int32)))]))
        refine Gl.go ?_ (fun t k => XS.ishl X0.here hx rfl (hb hby d2_100) rfl k)
        show Gl _ _ _ _ (s₁.setTop (mkF m 101 #[.val (.int u0), .val (.int u1), .val (.int u2), .val (.int u3), .val (.int i), .val (.int to), .val (.int (4 : Int32)), .unset, .unset] [(.int ((u0 &&& (7 : Int32)) <<< ((18 : Int32) &&& 31)))]))
        refine Gl.go ?_ (fun t k => XS.iloadN X0.here hx rfl (hb hby d2_101) rfl k)
        show Gl _ _ _ _ (s₁.setTop (mkF m 102 #[.val (.int u0), .val (.int u1), .val (.int u2), .val (.int u3), .val (.int i), .val (.int to), .val (.int (4 : Int32)), .unset, .unset] [(.int u1), (.int ((u0 &&& (7 : Int32)) <<< ((18 : Int32) &&& 31)))]))
        refine Gl.go ?_ (fun t k => XS.bipush X0.here hx rfl (hb hby d2_102) k)
        show Gl _ _ _ _ (s₁.setTop (mkF m 104 #[.val (.int u0), .val (.int u1), .val (.int u2), .val (.int u3), .val (.int i), .val (.int to), .val (.int (4 : Int32)), .unset, .unset] [(.int (63 : Int32)), (.int u1), (.int ((u0 &&& (7 : Int32)) <<< ((18 : Int32) &&& 31)))]))
        refine Gl.go ?_ (fun t k => XS.iand X0.here hx rfl (hb hby d2_104) rfl k)
        show Gl _ _ _ _ (s₁.setTop (mkF m 105 #[.val (.int u0), .val (.int u1), .val (.int u2), .val (.int u3), .val (.int i), .val (.int to), .val (.int (4 : Int32)), .unset, .unset] [(.int (u1 &&& (63 : Int32))), (.int ((u0 &&& (7 : Int32)) <<< ((18 : Int32) &&& 31)))]))
        refine Gl.go ?_ (fun t k => XS.bipush X0.here hx rfl (hb hby d2_105) k)
        show Gl _ _ _ _ (s₁.setTop (mkF m 107 #[.val (.int u0), .val (.int u1), .val (.int u2), .val (.int u3), .val (.int i), .val (.int to), .val (.int (4 : Int32)), .unset, .unset] [(.int (12 : Int32)), (.int (u1 &&& (63 : Int32))), (.int ((u0 &&& (7 : Int32)) <<< ((18 : Int32) &&& 31)))]))
        refine Gl.go ?_ (fun t k => XS.ishl X0.here hx rfl (hb hby d2_107) rfl k)
        show Gl _ _ _ _ (s₁.setTop (mkF m 108 #[.val (.int u0), .val (.int u1), .val (.int u2), .val (.int u3), .val (.int i), .val (.int to), .val (.int (4 : Int32)), .unset, .unset] [(.int ((u1 &&& (63 : Int32)) <<< ((12 : Int32) &&& 31))), (.int ((u0 &&& (7 : Int32)) <<< ((18 : Int32) &&& 31)))]))
        refine Gl.go ?_ (fun t k => XS.ior X0.here hx rfl (hb hby d2_108) rfl k)
        show Gl _ _ _ _ (s₁.setTop (mkF m 109 #[.val (.int u0), .val (.int u1), .val (.int u2), .val (.int u3), .val (.int i), .val (.int to), .val (.int (4 : Int32)), .unset, .unset] [(.int (((u0 &&& (7 : Int32)) <<< ((18 : Int32) &&& 31)) ||| ((u1 &&& (63 : Int32)) <<< ((12 : Int32) &&& 31))))]))
        refine Gl.go ?_ (fun t k => XS.iloadN X0.here hx rfl (hb hby d2_109) rfl k)
        show Gl _ _ _ _ (s₁.setTop (mkF m 110 #[.val (.int u0), .val (.int u1), .val (.int u2), .val (.int u3), .val (.int i), .val (.int to), .val (.int (4 : Int32)), .unset, .unset] [(.int u2), (.int (((u0 &&& (7 : Int32)) <<< ((18 : Int32) &&& 31)) ||| ((u1 &&& (63 : Int32)) <<< ((12 : Int32) &&& 31))))]))
        refine Gl.go ?_ (fun t k => XS.bipush X0.here hx rfl (hb hby d2_110) k)
        show Gl _ _ _ _ (s₁.setTop (mkF m 112 #[.val (.int u0), .val (.int u1), .val (.int u2), .val (.int u3), .val (.int i), .val (.int to), .val (.int (4 : Int32)), .unset, .unset] [(.int (63 : Int32)), (.int u2), (.int (((u0 &&& (7 : Int32)) <<< ((18 : Int32) &&& 31)) ||| ((u1 &&& (63 : Int32)) <<< ((12 : Int32) &&& 31))))]))
        refine Gl.go ?_ (fun t k => XS.iand X0.here hx rfl (hb hby d2_112) rfl k)
        show Gl _ _ _ _ (s₁.setTop (mkF m 113 #[.val (.int u0), .val (.int u1), .val (.int u2), .val (.int u3), .val (.int i), .val (.int to), .val (.int (4 : Int32)), .unset, .unset] [(.int (u2 &&& (63 : Int32))), (.int (((u0 &&& (7 : Int32)) <<< ((18 : Int32) &&& 31)) ||| ((u1 &&& (63 : Int32)) <<< ((12 : Int32) &&& 31))))]))
        refine Gl.go ?_ (fun t k => XS.bipush X0.here hx rfl (hb hby d2_113) k)
        show Gl _ _ _ _ (s₁.setTop (mkF m 115 #[.val (.int u0), .val (.int u1), .val (.int u2), .val (.int u3), .val (.int i), .val (.int to), .val (.int (4 : Int32)), .unset, .unset] [(.int (6 : Int32)), (.int (u2 &&& (63 : Int32))), (.int (((u0 &&& (7 : Int32)) <<< ((18 : Int32) &&& 31)) ||| ((u1 &&& (63 : Int32)) <<< ((12 : Int32) &&& 31))))]))
        refine Gl.go ?_ (fun t k => XS.ishl X0.here hx rfl (hb hby d2_115) rfl k)
        show Gl _ _ _ _ (s₁.setTop (mkF m 116 #[.val (.int u0), .val (.int u1), .val (.int u2), .val (.int u3), .val (.int i), .val (.int to), .val (.int (4 : Int32)), .unset, .unset] [(.int ((u2 &&& (63 : Int32)) <<< ((6 : Int32) &&& 31))), (.int (((u0 &&& (7 : Int32)) <<< ((18 : Int32) &&& 31)) ||| ((u1 &&& (63 : Int32)) <<< ((12 : Int32) &&& 31))))]))
        refine Gl.go ?_ (fun t k => XS.ior X0.here hx rfl (hb hby d2_116) rfl k)
        show Gl _ _ _ _ (s₁.setTop (mkF m 117 #[.val (.int u0), .val (.int u1), .val (.int u2), .val (.int u3), .val (.int i), .val (.int to), .val (.int (4 : Int32)), .unset, .unset] [(.int ((((u0 &&& (7 : Int32)) <<< ((18 : Int32) &&& 31)) ||| ((u1 &&& (63 : Int32)) <<< ((12 : Int32) &&& 31))) ||| ((u2 &&& (63 : Int32)) <<< ((6 : Int32) &&& 31))))]))
        refine Gl.go ?_ (fun t k => XS.iloadN X0.here hx rfl (hb hby d2_117) rfl k)
        show Gl _ _ _ _ (s₁.setTop (mkF m 118 #[.val (.int u0), .val (.int u1), .val (.int u2), .val (.int u3), .val (.int i), .val (.int to), .val (.int (4 : Int32)), .unset, .unset] [(.int u3), (.int ((((u0 &&& (7 : Int32)) <<< ((18 : Int32) &&& 31)) ||| ((u1 &&& (63 : Int32)) <<< ((12 : Int32) &&& 31))) ||| ((u2 &&& (63 : Int32)) <<< ((6 : Int32) &&& 31))))]))
        refine Gl.go ?_ (fun t k => XS.bipush X0.here hx rfl (hb hby d2_118) k)
        show Gl _ _ _ _ (s₁.setTop (mkF m 120 #[.val (.int u0), .val (.int u1), .val (.int u2), .val (.int u3), .val (.int i), .val (.int to), .val (.int (4 : Int32)), .unset, .unset] [(.int (63 : Int32)), (.int u3), (.int ((((u0 &&& (7 : Int32)) <<< ((18 : Int32) &&& 31)) ||| ((u1 &&& (63 : Int32)) <<< ((12 : Int32) &&& 31))) ||| ((u2 &&& (63 : Int32)) <<< ((6 : Int32) &&& 31))))]))
        refine Gl.go ?_ (fun t k => XS.iand X0.here hx rfl (hb hby d2_120) rfl k)
        show Gl _ _ _ _ (s₁.setTop (mkF m 121 #[.val (.int u0), .val (.int u1), .val (.int u2), .val (.int u3), .val (.int i), .val (.int to), .val (.int (4 : Int32)), .unset, .unset] [(.int (u3 &&& (63 : Int32))), (.int ((((u0 &&& (7 : Int32)) <<< ((18 : Int32) &&& 31)) ||| ((u1 &&& (63 : Int32)) <<< ((12 : Int32) &&& 31))) ||| ((u2 &&& (63 : Int32)) <<< ((6 : Int32) &&& 31))))]))
        refine Gl.go ?_ (fun t k => XS.ior X0.here hx rfl (hb hby d2_121) rfl k)
        show Gl _ _ _ _ (s₁.setTop (mkF m 122 #[.val (.int u0), .val (.int u1), .val (.int u2), .val (.int u3), .val (.int i), .val (.int to), .val (.int (4 : Int32)), .unset, .unset] [(.int (((((u0 &&& (7 : Int32)) <<< ((18 : Int32) &&& 31)) ||| ((u1 &&& (63 : Int32)) <<< ((12 : Int32) &&& 31))) ||| ((u2 &&& (63 : Int32)) <<< ((6 : Int32) &&& 31))) ||| (u3 &&& (63 : Int32))))]))
        refine Gl.go ?_ (fun t k => XS.istore X0.here hx rfl (hb hby d2_122) rfl (l' := #[.val (.int u0), .val (.int u1), .val (.int u2), .val (.int u3), .val (.int i), .val (.int to), .val (.int (4 : Int32)), .val (.int (((((u0 &&& (7 : Int32)) <<< ((18 : Int32) &&& 31)) ||| ((u1 &&& (63 : Int32)) <<< ((12 : Int32) &&& 31))) ||| ((u2 &&& (63 : Int32)) <<< ((6 : Int32) &&& 31))) ||| (u3 &&& (63 : Int32)))), .unset]) rfl k)
        show Gl _ _ _ _ (s₁.setTop (mkF m 124 #[.val (.int u0), .val (.int u1), .val (.int u2), .val (.int u3), .val (.int i), .val (.int to), .val (.int (4 : Int32)), .val (.int (((((u0 &&& (7 : Int32)) <<< ((18 : Int32) &&& 31)) ||| ((u1 &&& (63 : Int32)) <<< ((12 : Int32) &&& 31))) ||| ((u2 &&& (63 : Int32)) <<< ((6 : Int32) &&& 31))) ||| (u3 &&& (63 : Int32)))), .unset] []))
        refine Gl.go ?_ (X0.ldcInt hx hown (mvT hZ (hw _ (List.mem_of_getElem? (i := 15) rfl))) (g := (mkF m 124 #[.val (.int u0), .val (.int u1), .val (.int u2), .val (.int u3), .val (.int i), .val (.int to), .val (.int (4 : Int32)), .val (.int (((((u0 &&& (7 : Int32)) <<< ((18 : Int32) &&& 31)) ||| ((u1 &&& (63 : Int32)) <<< ((12 : Int32) &&& 31))) ||| ((u2 &&& (63 : Int32)) <<< ((6 : Int32) &&& 31))) ||| (u3 &&& (63 : Int32)))), .unset] [])) rfl (hb hby d2_124))
        show Gl _ _ _ _ (s₁.setTop (mkF m 126 #[.val (.int u0), .val (.int u1), .val (.int u2), .val (.int u3), .val (.int i), .val (.int to), .val (.int (4 : Int32)), .val (.int (((((u0 &&& (7 : Int32)) <<< ((18 : Int32) &&& 31)) ||| ((u1 &&& (63 : Int32)) <<< ((12 : Int32) &&& 31))) ||| ((u2 &&& (63 : Int32)) <<< ((6 : Int32) &&& 31))) ||| (u3 &&& (63 : Int32)))), .unset] [(.int (65536 : Int32))]))
        refine Gl.go ?_ (fun t k => XS.istore X0.here hx rfl (hb hby d2_126) rfl (l' := #[.val (.int u0), .val (.int u1), .val (.int u2), .val (.int u3), .val (.int i), .val (.int to), .val (.int (4 : Int32)), .val (.int (((((u0 &&& (7 : Int32)) <<< ((18 : Int32) &&& 31)) ||| ((u1 &&& (63 : Int32)) <<< ((12 : Int32) &&& 31))) ||| ((u2 &&& (63 : Int32)) <<< ((6 : Int32) &&& 31))) ||| (u3 &&& (63 : Int32)))), .val (.int (65536 : Int32))]) rfl k)
        show Gl _ _ _ _ (s₁.setTop (mkF m 128 #[.val (.int u0), .val (.int u1), .val (.int u2), .val (.int u3), .val (.int i), .val (.int to), .val (.int (4 : Int32)), .val (.int (((((u0 &&& (7 : Int32)) <<< ((18 : Int32) &&& 31)) ||| ((u1 &&& (63 : Int32)) <<< ((12 : Int32) &&& 31))) ||| ((u2 &&& (63 : Int32)) <<< ((6 : Int32) &&& 31))) ||| (u3 &&& (63 : Int32)))), .val (.int (65536 : Int32))] []))
        refine Gl.go ?_ (fun t k => XS.goto X0.here hx rfl (pc0 := 128) (pc' := 133) rfl (hb hby d2_128) (by decide) (by decide) k)
        show Gl _ _ _ _ (s₁.setTop (mkF m 133 #[.val (.int u0), .val (.int u1), .val (.int u2), .val (.int u3), .val (.int i), .val (.int to), .val (.int (4 : Int32)), .val (.int (((((u0 &&& (7 : Int32)) <<< ((18 : Int32) &&& 31)) ||| ((u1 &&& (63 : Int32)) <<< ((12 : Int32) &&& 31))) ||| ((u2 &&& (63 : Int32)) <<< ((6 : Int32) &&& 31))) ||| (u3 &&& (63 : Int32)))), .val (.int (65536 : Int32))] []))
        refine Gl.go ?_ (fun t k => XS.iload X0.here hx rfl (hb hby d2_133) rfl k)
        show Gl _ _ _ _ (s₁.setTop (mkF m 135 #[.val (.int u0), .val (.int u1), .val (.int u2), .val (.int u3), .val (.int i), .val (.int to), .val (.int (4 : Int32)), .val (.int (((((u0 &&& (7 : Int32)) <<< ((18 : Int32) &&& 31)) ||| ((u1 &&& (63 : Int32)) <<< ((12 : Int32) &&& 31))) ||| ((u2 &&& (63 : Int32)) <<< ((6 : Int32) &&& 31))) ||| (u3 &&& (63 : Int32)))), .val (.int (65536 : Int32))] [(.int to)]))
        refine Gl.go ?_ (fun t k => XS.iload X0.here hx rfl (hb hby d2_135) rfl k)
        show Gl _ _ _ _ (s₁.setTop (mkF m 137 #[.val (.int u0), .val (.int u1), .val (.int u2), .val (.int u3), .val (.int i), .val (.int to), .val (.int (4 : Int32)), .val (.int (((((u0 &&& (7 : Int32)) <<< ((18 : Int32) &&& 31)) ||| ((u1 &&& (63 : Int32)) <<< ((12 : Int32) &&& 31))) ||| ((u2 &&& (63 : Int32)) <<< ((6 : Int32) &&& 31))) ||| (u3 &&& (63 : Int32)))), .val (.int (65536 : Int32))] [(.int i), (.int to)]))
        refine Gl.go ?_ (fun t k => XS.isub X0.here hx rfl (hb hby d2_137) rfl k)
        show Gl _ _ _ _ (s₁.setTop (mkF m 138 #[.val (.int u0), .val (.int u1), .val (.int u2), .val (.int u3), .val (.int i), .val (.int to), .val (.int (4 : Int32)), .val (.int (((((u0 &&& (7 : Int32)) <<< ((18 : Int32) &&& 31)) ||| ((u1 &&& (63 : Int32)) <<< ((12 : Int32) &&& 31))) ||| ((u2 &&& (63 : Int32)) <<< ((6 : Int32) &&& 31))) ||| (u3 &&& (63 : Int32)))), .val (.int (65536 : Int32))] [(.int (to - i))]))
        refine Gl.go ?_ (fun t k => XS.iload X0.here hx rfl (hb hby d2_138) rfl k)
        show Gl _ _ _ _ (s₁.setTop (mkF m 140 #[.val (.int u0), .val (.int u1), .val (.int u2), .val (.int u3), .val (.int i), .val (.int to), .val (.int (4 : Int32)), .val (.int (((((u0 &&& (7 : Int32)) <<< ((18 : Int32) &&& 31)) ||| ((u1 &&& (63 : Int32)) <<< ((12 : Int32) &&& 31))) ||| ((u2 &&& (63 : Int32)) <<< ((6 : Int32) &&& 31))) ||| (u3 &&& (63 : Int32)))), .val (.int (65536 : Int32))] [(.int (4 : Int32)), (.int (to - i))]))
        by_cases hc21 : (to - i) < (4 : Int32)
        · refine Gl.go ?_ (fun t k => XS.icmpNo X0.here hx rfl (hb hby d2_140) rfl (tlt hc21).2.1 k)
          show Gl _ _ _ _ (s₁.setTop (mkF m 143 #[.val (.int u0), .val (.int u1), .val (.int u2), .val (.int u3), .val (.int i), .val (.int to), .val (.int (4 : Int32)), .val (.int (((((u0 &&& (7 : Int32)) <<< ((18 : Int32) &&& 31)) ||| ((u1 &&& (63 : Int32)) <<< ((12 : Int32) &&& 31))) ||| ((u2 &&& (63 : Int32)) <<< ((6 : Int32) &&& 31))) ||| (u3 &&& (63 : Int32)))), .val (.int (65536 : Int32))] []))
          refine Gl.go ?_ (fun t k => XS.iconst X0.here hx rfl (hb hby d2_143) k)
          show Gl _ _ _ _ (s₁.setTop (mkF m 144 #[.val (.int u0), .val (.int u1), .val (.int u2), .val (.int u3), .val (.int i), .val (.int to), .val (.int (4 : Int32)), .val (.int (((((u0 &&& (7 : Int32)) <<< ((18 : Int32) &&& 31)) ||| ((u1 &&& (63 : Int32)) <<< ((12 : Int32) &&& 31))) ||| ((u2 &&& (63 : Int32)) <<< ((6 : Int32) &&& 31))) ||| (u3 &&& (63 : Int32)))), .val (.int (65536 : Int32))] [(.int (-1 : Int32))]))
          obtain ⟨fs, hr, hrun, hended, hW, hsame⟩ := X0.leave (v := some (.int (-1 : Int32))) (fun h => by rw [Bd.returns] at h; cases h) (BodyLoose.notSynchronized Bd)
          exact Gl.mk ⟨_, _, retI X0 hx Bd.returns (hb hby d2_144) hr, hrun, hended, _, _, rfl, ⟨congrArg (fun z => some (Value.int z)) ((if_neg hc2).trans ((if_neg hc10).trans ((if_pos hc20).trans ((if_pos hc21).trans (rfl))))).symm, rfl, e0⟩, ⟨_, rfl⟩, hW, hsame.mono (by decide) (by decide)⟩
        · refine Gl.go ?_ (fun t k => XS.icmpYes X0.here hx rfl (pc0 := 140) (pc' := 145) rfl (hb hby d2_140) rfl (flt hc21).2.1 (by decide) (by decide) k)
          show Gl _ _ _ _ (s₁.setTop (mkF m 145 #[.val (.int u0), .val (.int u1), .val (.int u2), .val (.int u3), .val (.int i), .val (.int to), .val (.int (4 : Int32)), .val (.int (((((u0 &&& (7 : Int32)) <<< ((18 : Int32) &&& 31)) ||| ((u1 &&& (63 : Int32)) <<< ((12 : Int32) &&& 31))) ||| ((u2 &&& (63 : Int32)) <<< ((6 : Int32) &&& 31))) ||| (u3 &&& (63 : Int32)))), .val (.int (65536 : Int32))] []))
          refine Gl.go ?_ (fun t k => XS.iloadN X0.here hx rfl (hb hby d2_145) rfl k)
          show Gl _ _ _ _ (s₁.setTop (mkF m 146 #[.val (.int u0), .val (.int u1), .val (.int u2), .val (.int u3), .val (.int i), .val (.int to), .val (.int (4 : Int32)), .val (.int (((((u0 &&& (7 : Int32)) <<< ((18 : Int32) &&& 31)) ||| ((u1 &&& (63 : Int32)) <<< ((12 : Int32) &&& 31))) ||| ((u2 &&& (63 : Int32)) <<< ((6 : Int32) &&& 31))) ||| (u3 &&& (63 : Int32)))), .val (.int (65536 : Int32))] [(.int u1)]))
          obtain ⟨_, _, ⟨T22, L22, k22, n22⟩, -, X22, ⟨Lc22, hQ22, l22, y22, z22⟩, st22⟩ := Jvm.LawKit.callS X0 hx (y := (⟨"com/example/litera/litera/Utf8SequenceEndPinLaw", "isCont", "(I)Z"⟩ : MethodName)) hown (mvT hZ (hw _ (List.mem_of_getElem? (i := 10) rfl))) (mvT hZ (hw _ (List.mem_of_getElem? (i := 11) rfl))) (mvT hZ (hw _ (List.mem_of_getElem? (i := 8) rfl))) (mvT hZ (hw _ (List.mem_of_getElem? (i := 12) rfl))) (by decide) (backOf (W := 0) (rm3 l Z a0 hw [] u1 h0) hZ (hw _ (List.mem_of_getElem? (i := 12) rfl)) (hw _ (List.mem_of_getElem? (i := 8) rfl)) (by decide) (by decide)) (g := (mkF m 146 #[.val (.int u0), .val (.int u1), .val (.int u2), .val (.int u3), .val (.int i), .val (.int to), .val (.int (4 : Int32)), .val (.int (((((u0 &&& (7 : Int32)) <<< ((18 : Int32) &&& 31)) ||| ((u1 &&& (63 : Int32)) <<< ((12 : Int32) &&& 31))) ||| ((u2 &&& (63 : Int32)) <<< ((6 : Int32) &&& 31))) ||| (u3 &&& (63 : Int32)))), .val (.int (65536 : Int32))] [(.int u1)])) rfl (by rw [hml]; rfl) (argsL := [(.int u1)]) (rest := []) (lenOf pd_0 rfl) rfl (by show 2 * 0 + _ ≤ _; exact Nat.le_of_eq rfl) (hb hby d2_146) (fun _ _ => ⟨rfl, e0, (by decide : 0 + 0 ≤ _), (by decide : 0 + 0 ≤ _)⟩)
          dsimp only [Pt.U, Pt.locs, Pt.cells, Pt.slots] at X22 l22 y22 z22 st22 hQ22
          subst l22 y22 z22
          obtain ⟨rfl, rfl, e22⟩ := hQ22
          refine Gl.go ?_ st22
          show Gl _ _ _ _ (T22.setTop (mkF m 149 #[.val (.int u0), .val (.int u1), .val (.int u2), .val (.int u3), .val (.int i), .val (.int to), .val (.int (4 : Int32)), .val (.int (((((u0 &&& (7 : Int32)) <<< ((18 : Int32) &&& 31)) ||| ((u1 &&& (63 : Int32)) <<< ((12 : Int32) &&& 31))) ||| ((u2 &&& (63 : Int32)) <<< ((6 : Int32) &&& 31))) ||| (u3 &&& (63 : Int32)))), .val (.int (65536 : Int32))] [(.int (f_cont u1))]))
          by_cases hc23 : (f_cont u1) = (0 : Int32)
          · refine Gl.go ?_ (fun t k => XS.ifNo X22.here hx rfl (hb hby d2_149) rfl ((if0 _ _).trans (teq hc23).2) k)
            show Gl _ _ _ _ (T22.setTop (mkF m 152 #[.val (.int u0), .val (.int u1), .val (.int u2), .val (.int u3), .val (.int i), .val (.int to), .val (.int (4 : Int32)), .val (.int (((((u0 &&& (7 : Int32)) <<< ((18 : Int32) &&& 31)) ||| ((u1 &&& (63 : Int32)) <<< ((12 : Int32) &&& 31))) ||| ((u2 &&& (63 : Int32)) <<< ((6 : Int32) &&& 31))) ||| (u3 &&& (63 : Int32)))), .val (.int (65536 : Int32))] []))
            refine Gl.go ?_ (fun t k => XS.iconst X22.here hx rfl (hb hby d2_152) k)
            show Gl _ _ _ _ (T22.setTop (mkF m 153 #[.val (.int u0), .val (.int u1), .val (.int u2), .val (.int u3), .val (.int i), .val (.int to), .val (.int (4 : Int32)), .val (.int (((((u0 &&& (7 : Int32)) <<< ((18 : Int32) &&& 31)) ||| ((u1 &&& (63 : Int32)) <<< ((12 : Int32) &&& 31))) ||| ((u2 &&& (63 : Int32)) <<< ((6 : Int32) &&& 31))) ||| (u3 &&& (63 : Int32)))), .val (.int (65536 : Int32))] [(.int (-1 : Int32))]))
            obtain ⟨fs, hr, hrun, hended, hW, hsame⟩ := X22.leave (v := some (.int (-1 : Int32))) (fun h => by rw [Bd.returns] at h; cases h) (BodyLoose.notSynchronized Bd)
            exact Gl.mk ⟨_, _, retI X22 hx Bd.returns (hb hby d2_153) hr, hrun, hended, _, _, rfl, ⟨congrArg (fun z => some (Value.int z)) ((if_neg hc2).trans ((if_neg hc10).trans ((if_pos hc20).trans ((if_neg hc21).trans ((if_pos hc23).trans (rfl)))))).symm, rfl, e22⟩, ⟨_, rfl⟩, hW, hsame.mono (by decide) (by decide)⟩
          · refine Gl.go ?_ (fun t k => XS.ifYes X22.here hx rfl (pc0 := 149) (pc' := 154) rfl (hb hby d2_149) rfl ((if0 _ _).trans (feq hc23).2) (by decide) (by decide) k)
            show Gl _ _ _ _ (T22.setTop (mkF m 154 #[.val (.int u0), .val (.int u1), .val (.int u2), .val (.int u3), .val (.int i), .val (.int to), .val (.int (4 : Int32)), .val (.int (((((u0 &&& (7 : Int32)) <<< ((18 : Int32) &&& 31)) ||| ((u1 &&& (63 : Int32)) <<< ((12 : Int32) &&& 31))) ||| ((u2 &&& (63 : Int32)) <<< ((6 : Int32) &&& 31))) ||| (u3 &&& (63 : Int32)))), .val (.int (65536 : Int32))] []))
            refine Gl.go ?_ (fun t k => XS.iload X22.here hx rfl (hb hby d2_154) rfl k)
            show Gl _ _ _ _ (T22.setTop (mkF m 156 #[.val (.int u0), .val (.int u1), .val (.int u2), .val (.int u3), .val (.int i), .val (.int to), .val (.int (4 : Int32)), .val (.int (((((u0 &&& (7 : Int32)) <<< ((18 : Int32) &&& 31)) ||| ((u1 &&& (63 : Int32)) <<< ((12 : Int32) &&& 31))) ||| ((u2 &&& (63 : Int32)) <<< ((6 : Int32) &&& 31))) ||| (u3 &&& (63 : Int32)))), .val (.int (65536 : Int32))] [(.int (4 : Int32))]))
            refine Gl.go ?_ (fun t k => XS.iconst X22.here hx rfl (hb hby d2_156) k)
            show Gl _ _ _ _ (T22.setTop (mkF m 157 #[.val (.int u0), .val (.int u1), .val (.int u2), .val (.int u3), .val (.int i), .val (.int to), .val (.int (4 : Int32)), .val (.int (((((u0 &&& (7 : Int32)) <<< ((18 : Int32) &&& 31)) ||| ((u1 &&& (63 : Int32)) <<< ((12 : Int32) &&& 31))) ||| ((u2 &&& (63 : Int32)) <<< ((6 : Int32) &&& 31))) ||| (u3 &&& (63 : Int32)))), .val (.int (65536 : Int32))] [(.int (3 : Int32)), (.int (4 : Int32))]))
            refine Gl.go ?_ (fun t k => XS.icmpNo X22.here hx rfl (hb hby d2_157) rfl (flt (by decide : ¬ ((4 : Int32) < (3 : Int32)))).1 k)
            show Gl _ _ _ _ (T22.setTop (mkF m 160 #[.val (.int u0), .val (.int u1), .val (.int u2), .val (.int u3), .val (.int i), .val (.int to), .val (.int (4 : Int32)), .val (.int (((((u0 &&& (7 : Int32)) <<< ((18 : Int32) &&& 31)) ||| ((u1 &&& (63 : Int32)) <<< ((12 : Int32) &&& 31))) ||| ((u2 &&& (63 : Int32)) <<< ((6 : Int32) &&& 31))) ||| (u3 &&& (63 : Int32)))), .val (.int (65536 : Int32))] []))
            refine Gl.go ?_ (fun t k => XS.iloadN X22.here hx rfl (hb hby d2_160) rfl k)
            show Gl _ _ _ _ (T22.setTop (mkF m 161 #[.val (.int u0), .val (.int u1), .val (.int u2), .val (.int u3), .val (.int i), .val (.int to), .val (.int (4 : Int32)), .val (.int (((((u0 &&& (7 : Int32)) <<< ((18 : Int32) &&& 31)) ||| ((u1 &&& (63 : Int32)) <<< ((12 : Int32) &&& 31))) ||| ((u2 &&& (63 : Int32)) <<< ((6 : Int32) &&& 31))) ||| (u3 &&& (63 : Int32)))), .val (.int (65536 : Int32))] [(.int u2)]))
            obtain ⟨_, _, ⟨T24, L24, k24, n24⟩, -, X24, ⟨Lc24, hQ24, l24, y24, z24⟩, st24⟩ := Jvm.LawKit.callS X22 hx (y := (⟨"com/example/litera/litera/Utf8SequenceEndPinLaw", "isCont", "(I)Z"⟩ : MethodName)) hown (mvT hZ (hw _ (List.mem_of_getElem? (i := 10) rfl))) (mvT hZ (hw _ (List.mem_of_getElem? (i := 11) rfl))) (mvT hZ (hw _ (List.mem_of_getElem? (i := 8) rfl))) (mvT hZ (hw _ (List.mem_of_getElem? (i := 12) rfl))) (by decide) (backOf (W := 0) (rm3 l Z a0 hw [] u2 h0) hZ (hw _ (List.mem_of_getElem? (i := 12) rfl)) (hw _ (List.mem_of_getElem? (i := 8) rfl)) (by decide) (by decide)) (g := (mkF m 161 #[.val (.int u0), .val (.int u1), .val (.int u2), .val (.int u3), .val (.int i), .val (.int to), .val (.int (4 : Int32)), .val (.int (((((u0 &&& (7 : Int32)) <<< ((18 : Int32) &&& 31)) ||| ((u1 &&& (63 : Int32)) <<< ((12 : Int32) &&& 31))) ||| ((u2 &&& (63 : Int32)) <<< ((6 : Int32) &&& 31))) ||| (u3 &&& (63 : Int32)))), .val (.int (65536 : Int32))] [(.int u2)])) rfl (by rw [hml]; rfl) (argsL := [(.int u2)]) (rest := []) (lenOf pd_0 rfl) rfl (by show 2 * 0 + _ ≤ _; exact Nat.le_of_eq rfl) (hb hby d2_161) (fun _ _ => ⟨rfl, e22, (by decide : 0 + 0 ≤ _), (by decide : 0 + 0 ≤ _)⟩)
            dsimp only [Pt.U, Pt.locs, Pt.cells, Pt.slots] at X24 l24 y24 z24 st24 hQ24
            subst l24 y24 z24
            obtain ⟨rfl, rfl, e24⟩ := hQ24
            refine Gl.go ?_ st24
            show Gl _ _ _ _ (T24.setTop (mkF m 164 #[.val (.int u0), .val (.int u1), .val (.int u2), .val (.int u3), .val (.int i), .val (.int to), .val (.int (4 : Int32)), .val (.int (((((u0 &&& (7 : Int32)) <<< ((18 : Int32) &&& 31)) ||| ((u1 &&& (63 : Int32)) <<< ((12 : Int32) &&& 31))) ||| ((u2 &&& (63 : Int32)) <<< ((6 : Int32) &&& 31))) ||| (u3 &&& (63 : Int32)))), .val (.int (65536 : Int32))] [(.int (f_cont u2))]))
            by_cases hc25 : (f_cont u2) = (0 : Int32)
            · refine Gl.go ?_ (fun t k => XS.ifNo X24.here hx rfl (hb hby d2_164) rfl ((if0 _ _).trans (teq hc25).2) k)
              show Gl _ _ _ _ (T24.setTop (mkF m 167 #[.val (.int u0), .val (.int u1), .val (.int u2), .val (.int u3), .val (.int i), .val (.int to), .val (.int (4 : Int32)), .val (.int (((((u0 &&& (7 : Int32)) <<< ((18 : Int32) &&& 31)) ||| ((u1 &&& (63 : Int32)) <<< ((12 : Int32) &&& 31))) ||| ((u2 &&& (63 : Int32)) <<< ((6 : Int32) &&& 31))) ||| (u3 &&& (63 : Int32)))), .val (.int (65536 : Int32))] []))
              refine Gl.go ?_ (fun t k => XS.iconst X24.here hx rfl (hb hby d2_167) k)
              show Gl _ _ _ _ (T24.setTop (mkF m 168 #[.val (.int u0), .val (.int u1), .val (.int u2), .val (.int u3), .val (.int i), .val (.int to), .val (.int (4 : Int32)), .val (.int (((((u0 &&& (7 : Int32)) <<< ((18 : Int32) &&& 31)) ||| ((u1 &&& (63 : Int32)) <<< ((12 : Int32) &&& 31))) ||| ((u2 &&& (63 : Int32)) <<< ((6 : Int32) &&& 31))) ||| (u3 &&& (63 : Int32)))), .val (.int (65536 : Int32))] [(.int (-1 : Int32))]))
              obtain ⟨fs, hr, hrun, hended, hW, hsame⟩ := X24.leave (v := some (.int (-1 : Int32))) (fun h => by rw [Bd.returns] at h; cases h) (BodyLoose.notSynchronized Bd)
              exact Gl.mk ⟨_, _, retI X24 hx Bd.returns (hb hby d2_168) hr, hrun, hended, _, _, rfl, ⟨congrArg (fun z => some (Value.int z)) ((if_neg hc2).trans ((if_neg hc10).trans ((if_pos hc20).trans ((if_neg hc21).trans ((if_neg hc23).trans ((if_pos hc25).trans (rfl))))))).symm, rfl, e24⟩, ⟨_, rfl⟩, hW, hsame.mono (by decide) (by decide)⟩
            · refine Gl.go ?_ (fun t k => XS.ifYes X24.here hx rfl (pc0 := 164) (pc' := 169) rfl (hb hby d2_164) rfl ((if0 _ _).trans (feq hc25).2) (by decide) (by decide) k)
              show Gl _ _ _ _ (T24.setTop (mkF m 169 #[.val (.int u0), .val (.int u1), .val (.int u2), .val (.int u3), .val (.int i), .val (.int to), .val (.int (4 : Int32)), .val (.int (((((u0 &&& (7 : Int32)) <<< ((18 : Int32) &&& 31)) ||| ((u1 &&& (63 : Int32)) <<< ((12 : Int32) &&& 31))) ||| ((u2 &&& (63 : Int32)) <<< ((6 : Int32) &&& 31))) ||| (u3 &&& (63 : Int32)))), .val (.int (65536 : Int32))] []))
              refine Gl.go ?_ (fun t k => XS.iload X24.here hx rfl (hb hby d2_169) rfl k)
              show Gl _ _ _ _ (T24.setTop (mkF m 171 #[.val (.int u0), .val (.int u1), .val (.int u2), .val (.int u3), .val (.int i), .val (.int to), .val (.int (4 : Int32)), .val (.int (((((u0 &&& (7 : Int32)) <<< ((18 : Int32) &&& 31)) ||| ((u1 &&& (63 : Int32)) <<< ((12 : Int32) &&& 31))) ||| ((u2 &&& (63 : Int32)) <<< ((6 : Int32) &&& 31))) ||| (u3 &&& (63 : Int32)))), .val (.int (65536 : Int32))] [(.int (4 : Int32))]))
              refine Gl.go ?_ (fun t k => XS.iconst X24.here hx rfl (hb hby d2_171) k)
              show Gl _ _ _ _ (T24.setTop (mkF m 172 #[.val (.int u0), .val (.int u1), .val (.int u2), .val (.int u3), .val (.int i), .val (.int to), .val (.int (4 : Int32)), .val (.int (((((u0 &&& (7 : Int32)) <<< ((18 : Int32) &&& 31)) ||| ((u1 &&& (63 : Int32)) <<< ((12 : Int32) &&& 31))) ||| ((u2 &&& (63 : Int32)) <<< ((6 : Int32) &&& 31))) ||| (u3 &&& (63 : Int32)))), .val (.int (65536 : Int32))] [(.int (4 : Int32)), (.int (4 : Int32))]))
              refine Gl.go ?_ (fun t k => XS.icmpNo X24.here hx rfl (hb hby d2_172) rfl (teq (by decide : (4 : Int32) = (4 : Int32))).2 k)
              show Gl _ _ _ _ (T24.setTop (mkF m 175 #[.val (.int u0), .val (.int u1), .val (.int u2), .val (.int u3), .val (.int i), .val (.int to), .val (.int (4 : Int32)), .val (.int (((((u0 &&& (7 : Int32)) <<< ((18 : Int32) &&& 31)) ||| ((u1 &&& (63 : Int32)) <<< ((12 : Int32) &&& 31))) ||| ((u2 &&& (63 : Int32)) <<< ((6 : Int32) &&& 31))) ||| (u3 &&& (63 : Int32)))), .val (.int (65536 : Int32))] []))
              refine Gl.go ?_ (fun t k => XS.iloadN X24.here hx rfl (hb hby d2_175) rfl k)
              show Gl _ _ _ _ (T24.setTop (mkF m 176 #[.val (.int u0), .val (.int u1), .val (.int u2), .val (.int u3), .val (.int i), .val (.int to), .val (.int (4 : Int32)), .val (.int (((((u0 &&& (7 : Int32)) <<< ((18 : Int32) &&& 31)) ||| ((u1 &&& (63 : Int32)) <<< ((12 : Int32) &&& 31))) ||| ((u2 &&& (63 : Int32)) <<< ((6 : Int32) &&& 31))) ||| (u3 &&& (63 : Int32)))), .val (.int (65536 : Int32))] [(.int u3)]))
              obtain ⟨_, _, ⟨T26, L26, k26, n26⟩, -, X26, ⟨Lc26, hQ26, l26, y26, z26⟩, st26⟩ := Jvm.LawKit.callS X24 hx (y := (⟨"com/example/litera/litera/Utf8SequenceEndPinLaw", "isCont", "(I)Z"⟩ : MethodName)) hown (mvT hZ (hw _ (List.mem_of_getElem? (i := 10) rfl))) (mvT hZ (hw _ (List.mem_of_getElem? (i := 11) rfl))) (mvT hZ (hw _ (List.mem_of_getElem? (i := 8) rfl))) (mvT hZ (hw _ (List.mem_of_getElem? (i := 12) rfl))) (by decide) (backOf (W := 0) (rm3 l Z a0 hw [] u3 h0) hZ (hw _ (List.mem_of_getElem? (i := 12) rfl)) (hw _ (List.mem_of_getElem? (i := 8) rfl)) (by decide) (by decide)) (g := (mkF m 176 #[.val (.int u0), .val (.int u1), .val (.int u2), .val (.int u3), .val (.int i), .val (.int to), .val (.int (4 : Int32)), .val (.int (((((u0 &&& (7 : Int32)) <<< ((18 : Int32) &&& 31)) ||| ((u1 &&& (63 : Int32)) <<< ((12 : Int32) &&& 31))) ||| ((u2 &&& (63 : Int32)) <<< ((6 : Int32) &&& 31))) ||| (u3 &&& (63 : Int32)))), .val (.int (65536 : Int32))] [(.int u3)])) rfl (by rw [hml]; rfl) (argsL := [(.int u3)]) (rest := []) (lenOf pd_0 rfl) rfl (by show 2 * 0 + _ ≤ _; exact Nat.le_of_eq rfl) (hb hby d2_176) (fun _ _ => ⟨rfl, e24, (by decide : 0 + 0 ≤ _), (by decide : 0 + 0 ≤ _)⟩)
              dsimp only [Pt.U, Pt.locs, Pt.cells, Pt.slots] at X26 l26 y26 z26 st26 hQ26
              subst l26 y26 z26
              obtain ⟨rfl, rfl, e26⟩ := hQ26
              refine Gl.go ?_ st26
              show Gl _ _ _ _ (T26.setTop (mkF m 179 #[.val (.int u0), .val (.int u1), .val (.int u2), .val (.int u3), .val (.int i), .val (.int to), .val (.int (4 : Int32)), .val (.int (((((u0 &&& (7 : Int32)) <<< ((18 : Int32) &&& 31)) ||| ((u1 &&& (63 : Int32)) <<< ((12 : Int32) &&& 31))) ||| ((u2 &&& (63 : Int32)) <<< ((6 : Int32) &&& 31))) ||| (u3 &&& (63 : Int32)))), .val (.int (65536 : Int32))] [(.int (f_cont u3))]))
              by_cases hc27 : (f_cont u3) = (0 : Int32)
              · refine Gl.go ?_ (fun t k => XS.ifNo X26.here hx rfl (hb hby d2_179) rfl ((if0 _ _).trans (teq hc27).2) k)
                show Gl _ _ _ _ (T26.setTop (mkF m 182 #[.val (.int u0), .val (.int u1), .val (.int u2), .val (.int u3), .val (.int i), .val (.int to), .val (.int (4 : Int32)), .val (.int (((((u0 &&& (7 : Int32)) <<< ((18 : Int32) &&& 31)) ||| ((u1 &&& (63 : Int32)) <<< ((12 : Int32) &&& 31))) ||| ((u2 &&& (63 : Int32)) <<< ((6 : Int32) &&& 31))) ||| (u3 &&& (63 : Int32)))), .val (.int (65536 : Int32))] []))
                refine Gl.go ?_ (fun t k => XS.iconst X26.here hx rfl (hb hby d2_182) k)
                show Gl _ _ _ _ (T26.setTop (mkF m 183 #[.val (.int u0), .val (.int u1), .val (.int u2), .val (.int u3), .val (.int i), .val (.int to), .val (.int (4 : Int32)), .val (.int (((((u0 &&& (7 : Int32)) <<< ((18 : Int32) &&& 31)) ||| ((u1 &&& (63 : Int32)) <<< ((12 : Int32) &&& 31))) ||| ((u2 &&& (63 : Int32)) <<< ((6 : Int32) &&& 31))) ||| (u3 &&& (63 : Int32)))), .val (.int (65536 : Int32))] [(.int (-1 : Int32))]))
                obtain ⟨fs, hr, hrun, hended, hW, hsame⟩ := X26.leave (v := some (.int (-1 : Int32))) (fun h => by rw [Bd.returns] at h; cases h) (BodyLoose.notSynchronized Bd)
                exact Gl.mk ⟨_, _, retI X26 hx Bd.returns (hb hby d2_183) hr, hrun, hended, _, _, rfl, ⟨congrArg (fun z => some (Value.int z)) ((if_neg hc2).trans ((if_neg hc10).trans ((if_pos hc20).trans ((if_neg hc21).trans ((if_neg hc23).trans ((if_neg hc25).trans ((if_pos hc27).trans (rfl)))))))).symm, rfl, e26⟩, ⟨_, rfl⟩, hW, hsame.mono (by decide) (by decide)⟩
              · refine Gl.go ?_ (fun t k => XS.ifYes X26.here hx rfl (pc0 := 179) (pc' := 184) rfl (hb hby d2_179) rfl ((if0 _ _).trans (feq hc27).2) (by decide) (by decide) k)
                show Gl _ _ _ _ (T26.setTop (mkF m 184 #[.val (.int u0), .val (.int u1), .val (.int u2), .val (.int u3), .val (.int i), .val (.int to), .val (.int (4 : Int32)), .val (.int (((((u0 &&& (7 : Int32)) <<< ((18 : Int32) &&& 31)) ||| ((u1 &&& (63 : Int32)) <<< ((12 : Int32) &&& 31))) ||| ((u2 &&& (63 : Int32)) <<< ((6 : Int32) &&& 31))) ||| (u3 &&& (63 : Int32)))), .val (.int (65536 : Int32))] []))
                refine Gl.go ?_ (fun t k => XS.iload X26.here hx rfl (hb hby d2_184) rfl k)
                show Gl _ _ _ _ (T26.setTop (mkF m 186 #[.val (.int u0), .val (.int u1), .val (.int u2), .val (.int u3), .val (.int i), .val (.int to), .val (.int (4 : Int32)), .val (.int (((((u0 &&& (7 : Int32)) <<< ((18 : Int32) &&& 31)) ||| ((u1 &&& (63 : Int32)) <<< ((12 : Int32) &&& 31))) ||| ((u2 &&& (63 : Int32)) <<< ((6 : Int32) &&& 31))) ||| (u3 &&& (63 : Int32)))), .val (.int (65536 : Int32))] [(.int (((((u0 &&& (7 : Int32)) <<< ((18 : Int32) &&& 31)) ||| ((u1 &&& (63 : Int32)) <<< ((12 : Int32) &&& 31))) ||| ((u2 &&& (63 : Int32)) <<< ((6 : Int32) &&& 31))) ||| (u3 &&& (63 : Int32))))]))
                refine Gl.go ?_ (fun t k => XS.iload X26.here hx rfl (hb hby d2_186) rfl k)
                show Gl _ _ _ _ (T26.setTop (mkF m 188 #[.val (.int u0), .val (.int u1), .val (.int u2), .val (.int u3), .val (.int i), .val (.int to), .val (.int (4 : Int32)), .val (.int (((((u0 &&& (7 : Int32)) <<< ((18 : Int32) &&& 31)) ||| ((u1 &&& (63 : Int32)) <<< ((12 : Int32) &&& 31))) ||| ((u2 &&& (63 : Int32)) <<< ((6 : Int32) &&& 31))) ||| (u3 &&& (63 : Int32)))), .val (.int (65536 : Int32))] [(.int (65536 : Int32)), (.int (((((u0 &&& (7 : Int32)) <<< ((18 : Int32) &&& 31)) ||| ((u1 &&& (63 : Int32)) <<< ((12 : Int32) &&& 31))) ||| ((u2 &&& (63 : Int32)) <<< ((6 : Int32) &&& 31))) ||| (u3 &&& (63 : Int32))))]))
                by_cases hc28 : (((((u0 &&& (7 : Int32)) <<< ((18 : Int32) &&& 31)) ||| ((u1 &&& (63 : Int32)) <<< ((12 : Int32) &&& 31))) ||| ((u2 &&& (63 : Int32)) <<< ((6 : Int32) &&& 31))) ||| (u3 &&& (63 : Int32))) < (65536 : Int32)
                · refine Gl.go ?_ (fun t k => XS.icmpYes X26.here hx rfl (pc0 := 188) (pc' := 198) rfl (hb hby d2_188) rfl (tlt hc28).1 (by decide) (by decide) k)
                  show Gl _ _ _ _ (T26.setTop (mkF m 198 #[.val (.int u0), .val (.int u1), .val (.int u2), .val (.int u3), .val (.int i), .val (.int to), .val (.int (4 : Int32)), .val (.int (((((u0 &&& (7 : Int32)) <<< ((18 : Int32) &&& 31)) ||| ((u1 &&& (63 : Int32)) <<< ((12 : Int32) &&& 31))) ||| ((u2 &&& (63 : Int32)) <<< ((6 : Int32) &&& 31))) ||| (u3 &&& (63 : Int32)))), .val (.int (65536 : Int32))] []))
                  refine Gl.go ?_ (fun t k => XS.iconst X26.here hx rfl (hb hby d2_198) k)
                  show Gl _ _ _ _ (T26.setTop (mkF m 199 #[.val (.int u0), .val (.int u1), .val (.int u2), .val (.int u3), .val (.int i), .val (.int to), .val (.int (4 : Int32)), .val (.int (((((u0 &&& (7 : Int32)) <<< ((18 : Int32) &&& 31)) ||| ((u1 &&& (63 : Int32)) <<< ((12 : Int32) &&& 31))) ||| ((u2 &&& (63 : Int32)) <<< ((6 : Int32) &&& 31))) ||| (u3 &&& (63 : Int32)))), .val (.int (65536 : Int32))] [(.int (-1 : Int32))]))
                  obtain ⟨fs, hr, hrun, hended, hW, hsame⟩ := X26.leave (v := some (.int (-1 : Int32))) (fun h => by rw [Bd.returns] at h; cases h) (BodyLoose.notSynchronized Bd)
                  exact Gl.mk ⟨_, _, retI X26 hx Bd.returns (hb hby d2_199) hr, hrun, hended, _, _, rfl, ⟨congrArg (fun z => some (Value.int z)) ((if_neg hc2).trans ((if_neg hc10).trans ((if_pos hc20).trans ((if_neg hc21).trans ((if_neg hc23).trans ((if_neg hc25).trans ((if_neg hc27).trans ((if_pos hc28).trans (rfl))))))))).symm, rfl, e26⟩, ⟨_, rfl⟩, hW, hsame.mono (by decide) (by decide)⟩
                · refine Gl.go ?_ (fun t k => XS.icmpNo X26.here hx rfl (hb hby d2_188) rfl (flt hc28).1 k)
                  show Gl _ _ _ _ (T26.setTop (mkF m 191 #[.val (.int u0), .val (.int u1), .val (.int u2), .val (.int u3), .val (.int i), .val (.int to), .val (.int (4 : Int32)), .val (.int (((((u0 &&& (7 : Int32)) <<< ((18 : Int32) &&& 31)) ||| ((u1 &&& (63 : Int32)) <<< ((12 : Int32) &&& 31))) ||| ((u2 &&& (63 : Int32)) <<< ((6 : Int32) &&& 31))) ||| (u3 &&& (63 : Int32)))), .val (.int (65536 : Int32))] []))
                  refine Gl.go ?_ (fun t k => XS.iload X26.here hx rfl (hb hby d2_191) rfl k)
                  show Gl _ _ _ _ (T26.setTop (mkF m 193 #[.val (.int u0), .val (.int u1), .val (.int u2), .val (.int u3), .val (.int i), .val (.int to), .val (.int (4 : Int32)), .val (.int (((((u0 &&& (7 : Int32)) <<< ((18 : Int32) &&& 31)) ||| ((u1 &&& (63 : Int32)) <<< ((12 : Int32) &&& 31))) ||| ((u2 &&& (63 : Int32)) <<< ((6 : Int32) &&& 31))) ||| (u3 &&& (63 : Int32)))), .val (.int (65536 : Int32))] [(.int (((((u0 &&& (7 : Int32)) <<< ((18 : Int32) &&& 31)) ||| ((u1 &&& (63 : Int32)) <<< ((12 : Int32) &&& 31))) ||| ((u2 &&& (63 : Int32)) <<< ((6 : Int32) &&& 31))) ||| (u3 &&& (63 : Int32))))]))
                  refine Gl.go ?_ (X26.ldcInt hx hown (mvT hZ (hw _ (List.mem_of_getElem? (i := 13) rfl))) (g := (mkF m 193 #[.val (.int u0), .val (.int u1), .val (.int u2), .val (.int u3), .val (.int i), .val (.int to), .val (.int (4 : Int32)), .val (.int (((((u0 &&& (7 : Int32)) <<< ((18 : Int32) &&& 31)) ||| ((u1 &&& (63 : Int32)) <<< ((12 : Int32) &&& 31))) ||| ((u2 &&& (63 : Int32)) <<< ((6 : Int32) &&& 31))) ||| (u3 &&& (63 : Int32)))), .val (.int (65536 : Int32))] [(.int (((((u0 &&& (7 : Int32)) <<< ((18 : Int32) &&& 31)) ||| ((u1 &&& (63 : Int32)) <<< ((12 : Int32) &&& 31))) ||| ((u2 &&& (63 : Int32)) <<< ((6 : Int32) &&& 31))) ||| (u3 &&& (63 : Int32))))])) rfl (hb hby d2_193))
                  show Gl _ _ _ _ (T26.setTop (mkF m 195 #[.val (.int u0), .val (.int u1), .val (.int u2), .val (.int u3), .val (.int i), .val (.int to), .val (.int (4 : Int32)), .val (.int (((((u0 &&& (7 : Int32)) <<< ((18 : Int32) &&& 31)) ||| ((u1 &&& (63 : Int32)) <<< ((12 : Int32) &&& 31))) ||| ((u2 &&& (63 : Int32)) <<< ((6 : Int32) &&& 31))) ||| (u3 &&& (63 : Int32)))), .val (.int (65536 : Int32))] [(.int (1114111 : Int32)), (.int (((((u0 &&& (7 : Int32)) <<< ((18 : Int32) &&& 31)) ||| ((u1 &&& (63 : Int32)) <<< ((12 : Int32) &&& 31))) ||| ((u2 &&& (63 : Int32)) <<< ((6 : Int32) &&& 31))) ||| (u3 &&& (63 : Int32))))]))
                  by_cases hc29 : (1114111 : Int32) < (((((u0 &&& (7 : Int32)) <<< ((18 : Int32) &&& 31)) ||| ((u1 &&& (63 : Int32)) <<< ((12 : Int32) &&& 31))) ||| ((u2 &&& (63 : Int32)) <<< ((6 : Int32) &&& 31))) ||| (u3 &&& (63 : Int32)))
                  · refine Gl.go ?_ (fun t k => XS.icmpNo X26.here hx rfl (hb hby d2_195) rfl (tlt hc29).2.2.2 k)
                    show Gl _ _ _ _ (T26.setTop (mkF m 198 #[.val (.int u0), .val (.int u1), .val (.int u2), .val (.int u3), .val (.int i), .val (.int to), .val (.int (4 : Int32)), .val (.int (((((u0 &&& (7 : Int32)) <<< ((18 : Int32) &&& 31)) ||| ((u1 &&& (63 : Int32)) <<< ((12 : Int32) &&& 31))) ||| ((u2 &&& (63 : Int32)) <<< ((6 : Int32) &&& 31))) ||| (u3 &&& (63 : Int32)))), .val (.int (65536 : Int32))] []))
                    refine Gl.go ?_ (fun t k => XS.iconst X26.here hx rfl (hb hby d2_198) k)
                    show Gl _ _ _ _ (T26.setTop (mkF m 199 #[.val (.int u0), .val (.int u1), .val (.int u2), .val (.int u3), .val (.int i), .val (.int to), .val (.int (4 : Int32)), .val (.int (((((u0 &&& (7 : Int32)) <<< ((18 : Int32) &&& 31)) ||| ((u1 &&& (63 : Int32)) <<< ((12 : Int32) &&& 31))) ||| ((u2 &&& (63 : Int32)) <<< ((6 : Int32) &&& 31))) ||| (u3 &&& (63 : Int32)))), .val (.int (65536 : Int32))] [(.int (-1 : Int32))]))
                    obtain ⟨fs, hr, hrun, hended, hW, hsame⟩ := X26.leave (v := some (.int (-1 : Int32))) (fun h => by rw [Bd.returns] at h; cases h) (BodyLoose.notSynchronized Bd)
                    exact Gl.mk ⟨_, _, retI X26 hx Bd.returns (hb hby d2_199) hr, hrun, hended, _, _, rfl, ⟨congrArg (fun z => some (Value.int z)) ((if_neg hc2).trans ((if_neg hc10).trans ((if_pos hc20).trans ((if_neg hc21).trans ((if_neg hc23).trans ((if_neg hc25).trans ((if_neg hc27).trans ((if_neg hc28).trans ((if_pos hc29).trans (rfl)))))))))).symm, rfl, e26⟩, ⟨_, rfl⟩, hW, hsame.mono (by decide) (by decide)⟩
                  · refine Gl.go ?_ (fun t k => XS.icmpYes X26.here hx rfl (pc0 := 195) (pc' := 200) rfl (hb hby d2_195) rfl (flt hc29).2.2.2 (by decide) (by decide) k)
                    show Gl _ _ _ _ (T26.setTop (mkF m 200 #[.val (.int u0), .val (.int u1), .val (.int u2), .val (.int u3), .val (.int i), .val (.int to), .val (.int (4 : Int32)), .val (.int (((((u0 &&& (7 : Int32)) <<< ((18 : Int32) &&& 31)) ||| ((u1 &&& (63 : Int32)) <<< ((12 : Int32) &&& 31))) ||| ((u2 &&& (63 : Int32)) <<< ((6 : Int32) &&& 31))) ||| (u3 &&& (63 : Int32)))), .val (.int (65536 : Int32))] []))
                    refine Gl.go ?_ (fun t k => XS.iload X26.here hx rfl (hb hby d2_200) rfl k)
                    show Gl _ _ _ _ (T26.setTop (mkF m 202 #[.val (.int u0), .val (.int u1), .val (.int u2), .val (.int u3), .val (.int i), .val (.int to), .val (.int (4 : Int32)), .val (.int (((((u0 &&& (7 : Int32)) <<< ((18 : Int32) &&& 31)) ||| ((u1 &&& (63 : Int32)) <<< ((12 : Int32) &&& 31))) ||| ((u2 &&& (63 : Int32)) <<< ((6 : Int32) &&& 31))) ||| (u3 &&& (63 : Int32)))), .val (.int (65536 : Int32))] [(.int (((((u0 &&& (7 : Int32)) <<< ((18 : Int32) &&& 31)) ||| ((u1 &&& (63 : Int32)) <<< ((12 : Int32) &&& 31))) ||| ((u2 &&& (63 : Int32)) <<< ((6 : Int32) &&& 31))) ||| (u3 &&& (63 : Int32))))]))
                    refine Gl.go ?_ (X26.ldcInt hx hown (mvT hZ (hw _ (List.mem_of_getElem? (i := 14) rfl))) (g := (mkF m 202 #[.val (.int u0), .val (.int u1), .val (.int u2), .val (.int u3), .val (.int i), .val (.int to), .val (.int (4 : Int32)), .val (.int (((((u0 &&& (7 : Int32)) <<< ((18 : Int32) &&& 31)) ||| ((u1 &&& (63 : Int32)) <<< ((12 : Int32) &&& 31))) ||| ((u2 &&& (63 : Int32)) <<< ((6 : Int32) &&& 31))) ||| (u3 &&& (63 : Int32)))), .val (.int (65536 : Int32))] [(.int (((((u0 &&& (7 : Int32)) <<< ((18 : Int32) &&& 31)) ||| ((u1 &&& (63 : Int32)) <<< ((12 : Int32) &&& 31))) ||| ((u2 &&& (63 : Int32)) <<< ((6 : Int32) &&& 31))) ||| (u3 &&& (63 : Int32))))])) rfl (hb hby d2_202))
                    show Gl _ _ _ _ (T26.setTop (mkF m 204 #[.val (.int u0), .val (.int u1), .val (.int u2), .val (.int u3), .val (.int i), .val (.int to), .val (.int (4 : Int32)), .val (.int (((((u0 &&& (7 : Int32)) <<< ((18 : Int32) &&& 31)) ||| ((u1 &&& (63 : Int32)) <<< ((12 : Int32) &&& 31))) ||| ((u2 &&& (63 : Int32)) <<< ((6 : Int32) &&& 31))) ||| (u3 &&& (63 : Int32)))), .val (.int (65536 : Int32))] [(.int (55296 : Int32)), (.int (((((u0 &&& (7 : Int32)) <<< ((18 : Int32) &&& 31)) ||| ((u1 &&& (63 : Int32)) <<< ((12 : Int32) &&& 31))) ||| ((u2 &&& (63 : Int32)) <<< ((6 : Int32) &&& 31))) ||| (u3 &&& (63 : Int32))))]))
                    refine Gl.go ?_ (fun t k => XS.icmpNo X26.here hx rfl (hb hby d2_204) rfl (flt (iv_nlt' (k := 55296) rfl (by have q0 := iv_nlt (k := 65536) rfl hc28; have q1 := iv_ngt (k := 1114111) rfl hc29; omega) : ¬ ((((((u0 &&& (7 : Int32)) <<< ((18 : Int32) &&& 31)) ||| ((u1 &&& (63 : Int32)) <<< ((12 : Int32) &&& 31))) ||| ((u2 &&& (63 : Int32)) <<< ((6 : Int32) &&& 31))) ||| (u3 &&& (63 : Int32))) < (55296 : Int32)))).1 k)
                    show Gl _ _ _ _ (T26.setTop (mkF m 207 #[.val (.int u0), .val (.int u1), .val (.int u2), .val (.int u3), .val (.int i), .val (.int to), .val (.int (4 : Int32)), .val (.int (((((u0 &&& (7 : Int32)) <<< ((18 : Int32) &&& 31)) ||| ((u1 &&& (63 : Int32)) <<< ((12 : Int32) &&& 31))) ||| ((u2 &&& (63 : Int32)) <<< ((6 : Int32) &&& 31))) ||| (u3 &&& (63 : Int32)))), .val (.int (65536 : Int32))] []))
                    refine Gl.go ?_ (fun t k => XS.iload X26.here hx rfl (hb hby d2_207) rfl k)
                    show Gl _ _ _ _ (T26.setTop (mkF m 209 #[.val (.int u0), .val (.int u1), .val (.int u2), .val (.int u3), .val (.int i), .val (.int to), .val (.int (4 : Int32)), .val (.int (((((u0 &&& (7 : Int32)) <<< ((18 : Int32) &&& 31)) ||| ((u1 &&& (63 : Int32)) <<< ((12 : Int32) &&& 31))) ||| ((u2 &&& (63 : Int32)) <<< ((6 : Int32) &&& 31))) ||| (u3 &&& (63 : Int32)))), .val (.int (65536 : Int32))] [(.int (((((u0 &&& (7 : Int32)) <<< ((18 : Int32) &&& 31)) ||| ((u1 &&& (63 : Int32)) <<< ((12 : Int32) &&& 31))) ||| ((u2 &&& (63 : Int32)) <<< ((6 : Int32) &&& 31))) ||| (u3 &&& (63 : Int32))))]))
                    refine Gl.go ?_ (X26.ldcInt hx hown (mvT hZ (hw _ (List.mem_of_getElem? (i := 16) rfl))) (g := (mkF m 209 #[.val (.int u0), .val (.int u1), .val (.int u2), .val (.int u3), .val (.int i), .val (.int to), .val (.int (4 : Int32)), .val (.int (((((u0 &&& (7 : Int32)) <<< ((18 : Int32) &&& 31)) ||| ((u1 &&& (63 : Int32)) <<< ((12 : Int32) &&& 31))) ||| ((u2 &&& (63 : Int32)) <<< ((6 : Int32) &&& 31))) ||| (u3 &&& (63 : Int32)))), .val (.int (65536 : Int32))] [(.int (((((u0 &&& (7 : Int32)) <<< ((18 : Int32) &&& 31)) ||| ((u1 &&& (63 : Int32)) <<< ((12 : Int32) &&& 31))) ||| ((u2 &&& (63 : Int32)) <<< ((6 : Int32) &&& 31))) ||| (u3 &&& (63 : Int32))))])) rfl (hb hby d2_209))
                    show Gl _ _ _ _ (T26.setTop (mkF m 211 #[.val (.int u0), .val (.int u1), .val (.int u2), .val (.int u3), .val (.int i), .val (.int to), .val (.int (4 : Int32)), .val (.int (((((u0 &&& (7 : Int32)) <<< ((18 : Int32) &&& 31)) ||| ((u1 &&& (63 : Int32)) <<< ((12 : Int32) &&& 31))) ||| ((u2 &&& (63 : Int32)) <<< ((6 : Int32) &&& 31))) ||| (u3 &&& (63 : Int32)))), .val (.int (65536 : Int32))] [(.int (57343 : Int32)), (.int (((((u0 &&& (7 : Int32)) <<< ((18 : Int32) &&& 31)) ||| ((u1 &&& (63 : Int32)) <<< ((12 : Int32) &&& 31))) ||| ((u2 &&& (63 : Int32)) <<< ((6 : Int32) &&& 31))) ||| (u3 &&& (63 : Int32))))]))
                    refine Gl.go ?_ (fun t k => XS.icmpYes X26.here hx rfl (pc0 := 211) (pc' := 216) rfl (hb hby d2_211) rfl (tlt (iv_gt' (k := 57343) rfl (by have q0 := iv_nlt (k := 65536) rfl hc28; have q1 := iv_ngt (k := 1114111) rfl hc29; omega) : (57343 : Int32) < (((((u0 &&& (7 : Int32)) <<< ((18 : Int32) &&& 31)) ||| ((u1 &&& (63 : Int32)) <<< ((12 : Int32) &&& 31))) ||| ((u2 &&& (63 : Int32)) <<< ((6 : Int32) &&& 31))) ||| (u3 &&& (63 : Int32))))).2.2.1 (by decide) (by decide) k)
                    show Gl _ _ _ _ (T26.setTop (mkF m 216 #[.val (.int u0), .val (.int u1), .val (.int u2), .val (.int u3), .val (.int i), .val (.int to), .val (.int (4 : Int32)), .val (.int (((((u0 &&& (7 : Int32)) <<< ((18 : Int32) &&& 31)) ||| ((u1 &&& (63 : Int32)) <<< ((12 : Int32) &&& 31))) ||| ((u2 &&& (63 : Int32)) <<< ((6 : Int32) &&& 31))) ||| (u3 &&& (63 : Int32)))), .val (.int (65536 : Int32))] []))
                    refine Gl.go ?_ (fun t k => XS.iload X26.here hx rfl (hb hby d2_216) rfl k)
                    show Gl _ _ _ _ (T26.setTop (mkF m 218 #[.val (.int u0), .val (.int u1), .val (.int u2), .val (.int u3), .val (.int i), .val (.int to), .val (.int (4 : Int32)), .val (.int (((((u0 &&& (7 : Int32)) <<< ((18 : Int32) &&& 31)) ||| ((u1 &&& (63 : Int32)) <<< ((12 : Int32) &&& 31))) ||| ((u2 &&& (63 : Int32)) <<< ((6 : Int32) &&& 31))) ||| (u3 &&& (63 : Int32)))), .val (.int (65536 : Int32))] [(.int i)]))
                    refine Gl.go ?_ (fun t k => XS.iload X26.here hx rfl (hb hby d2_218) rfl k)
                    show Gl _ _ _ _ (T26.setTop (mkF m 220 #[.val (.int u0), .val (.int u1), .val (.int u2), .val (.int u3), .val (.int i), .val (.int to), .val (.int (4 : Int32)), .val (.int (((((u0 &&& (7 : Int32)) <<< ((18 : Int32) &&& 31)) ||| ((u1 &&& (63 : Int32)) <<< ((12 : Int32) &&& 31))) ||| ((u2 &&& (63 : Int32)) <<< ((6 : Int32) &&& 31))) ||| (u3 &&& (63 : Int32)))), .val (.int (65536 : Int32))] [(.int (4 : Int32)), (.int i)]))
                    refine Gl.go ?_ (fun t k => XS.iadd X26.here hx rfl (hb hby d2_220) rfl k)
                    show Gl _ _ _ _ (T26.setTop (mkF m 221 #[.val (.int u0), .val (.int u1), .val (.int u2), .val (.int u3), .val (.int i), .val (.int to), .val (.int (4 : Int32)), .val (.int (((((u0 &&& (7 : Int32)) <<< ((18 : Int32) &&& 31)) ||| ((u1 &&& (63 : Int32)) <<< ((12 : Int32) &&& 31))) ||| ((u2 &&& (63 : Int32)) <<< ((6 : Int32) &&& 31))) ||| (u3 &&& (63 : Int32)))), .val (.int (65536 : Int32))] [(.int (i + (4 : Int32)))]))
                    obtain ⟨fs, hr, hrun, hended, hW, hsame⟩ := X26.leave (v := some (.int (i + (4 : Int32)))) (fun h => by rw [Bd.returns] at h; cases h) (BodyLoose.notSynchronized Bd)
                    exact Gl.mk ⟨_, _, retI X26 hx Bd.returns (hb hby d2_221) hr, hrun, hended, _, _, rfl, ⟨congrArg (fun z => some (Value.int z)) ((if_neg hc2).trans ((if_neg hc10).trans ((if_pos hc20).trans ((if_neg hc21).trans ((if_neg hc23).trans ((if_neg hc25).trans ((if_neg hc27).trans ((if_neg hc28).trans ((if_neg hc29).trans (rfl)))))))))).symm, rfl, e26⟩, ⟨_, rfl⟩, hW, hsame.mono (by decide) (by decide)⟩
      · refine Gl.go ?_ (fun t k => XS.icmpYes X0.here hx rfl (pc0 := 88) (pc' := 131) rfl (hb hby d2_88) rfl (feq hc20).2 (by decide) (by decide) k)
        show Gl _ _ _ _ (s₁.setTop (mkF m 131 #[.val (.int u0), .val (.int u1), .val (.int u2), .val (.int u3), .val (.int i), .val (.int to), .unset, .unset, .unset] []))
        refine Gl.go ?_ (fun t k => XS.iconst X0.here hx rfl (hb hby d2_131) k)
        show Gl _ _ _ _ (s₁.setTop (mkF m 132 #[.val (.int u0), .val (.int u1), .val (.int u2), .val (.int u3), .val (.int i), .val (.int to), .unset, .unset, .unset] [(.int (-1 : Int32))]))
        obtain ⟨fs, hr, hrun, hended, hW, hsame⟩ := X0.leave (v := some (.int (-1 : Int32))) (fun h => by rw [Bd.returns] at h; cases h) (BodyLoose.notSynchronized Bd)
        exact Gl.mk ⟨_, _, retI X0 hx Bd.returns (hb hby d2_132) hr, hrun, hended, _, _, rfl, ⟨congrArg (fun z => some (Value.int z)) ((if_neg hc2).trans ((if_neg hc10).trans ((if_neg hc20).trans (rfl)))).symm, rfl, e0⟩, ⟨_, rfl⟩, hW, hsame.mono (by decide) (by decide)⟩
theorem d1_0 : decode prog_59_method_11_code 0 = .ok (.aload_n 0, 1) := by decide +kernel
theorem d1_1 : decode prog_59_method_11_code 1 = .ok (.iload_n 1, 1) := by decide +kernel
theorem d1_2 : decode prog_59_method_11_code 2 = .ok (.baload, 1) := by decide +kernel
theorem d1_3 : decode prog_59_method_11_code 3 = .ok (.sipush 255, 3) := by decide +kernel
theorem d1_6 : decode prog_59_method_11_code 6 = .ok (.iand, 1) := by decide +kernel
theorem d1_7 : decode prog_59_method_11_code 7 = .ok (.istore_n 3, 1) := by decide +kernel
theorem d1_8 : decode prog_59_method_11_code 8 = .ok (.iconst 0, 1) := by decide +kernel
theorem d1_9 : decode prog_59_method_11_code 9 = .ok (.istore 4, 2) := by decide +kernel
theorem d1_11 : decode prog_59_method_11_code 11 = .ok (.sipush 128, 3) := by decide +kernel
theorem d1_14 : decode prog_59_method_11_code 14 = .ok (.istore 5, 2) := by decide +kernel
theorem d1_16 : decode prog_59_method_11_code 16 = .ok (.sipush 191, 3) := by decide +kernel
theorem d1_19 : decode prog_59_method_11_code 19 = .ok (.istore 6, 2) := by decide +kernel
theorem d1_21 : decode prog_59_method_11_code 21 = .ok (.iload_n 3, 1) := by decide +kernel
theorem d1_22 : decode prog_59_method_11_code 22 = .ok (.sipush 194, 3) := by decide +kernel
theorem d1_25 : decode prog_59_method_11_code 25 = .ok (.if_icmp .lt 16, 3) := by decide +kernel
theorem d1_28 : decode prog_59_method_11_code 28 = .ok (.iload_n 3, 1) := by decide +kernel
theorem d1_29 : decode prog_59_method_11_code 29 = .ok (.sipush 223, 3) := by decide +kernel
theorem d1_32 : decode prog_59_method_11_code 32 = .ok (.if_icmp .gt 9, 3) := by decide +kernel
theorem d1_35 : decode prog_59_method_11_code 35 = .ok (.iconst 2, 1) := by decide +kernel
theorem d1_36 : decode prog_59_method_11_code 36 = .ok (.istore 4, 2) := by decide +kernel
theorem d1_38 : decode prog_59_method_11_code 38 = .ok (.goto 108, 3) := by decide +kernel
theorem d1_41 : decode prog_59_method_11_code 41 = .ok (.iload_n 3, 1) := by decide +kernel
theorem d1_42 : decode prog_59_method_11_code 42 = .ok (.sipush 224, 3) := by decide +kernel
theorem d1_45 : decode prog_59_method_11_code 45 = .ok (.if_icmp .lt 50, 3) := by decide +kernel
theorem d1_48 : decode prog_59_method_11_code 48 = .ok (.iload_n 3, 1) := by decide +kernel
theorem d1_49 : decode prog_59_method_11_code 49 = .ok (.sipush 239, 3) := by decide +kernel
theorem d1_52 : decode prog_59_method_11_code 52 = .ok (.if_icmp .gt 43, 3) := by decide +kernel
theorem d1_55 : decode prog_59_method_11_code 55 = .ok (.iconst 3, 1) := by decide +kernel
theorem d1_56 : decode prog_59_method_11_code 56 = .ok (.istore 4, 2) := by decide +kernel
theorem d1_58 : decode prog_59_method_11_code 58 = .ok (.iload_n 3, 1) := by decide +kernel
theorem d1_59 : decode prog_59_method_11_code 59 = .ok (.sipush 224, 3) := by decide +kernel
theorem d1_62 : decode prog_59_method_11_code 62 = .ok (.if_icmp .ne 9, 3) := by decide +kernel
theorem d1_65 : decode prog_59_method_11_code 65 = .ok (.sipush 160, 3) := by decide +kernel
theorem d1_68 : decode prog_59_method_11_code 68 = .ok (.goto 5, 3) := by decide +kernel
theorem d1_71 : decode prog_59_method_11_code 71 = .ok (.iload 5, 2) := by decide +kernel
theorem d1_73 : decode prog_59_method_11_code 73 = .ok (.istore 5, 2) := by decide +kernel
theorem d1_75 : decode prog_59_method_11_code 75 = .ok (.iload_n 3, 1) := by decide +kernel
theorem d1_76 : decode prog_59_method_11_code 76 = .ok (.sipush 237, 3) := by decide +kernel
theorem d1_79 : decode prog_59_method_11_code 79 = .ok (.if_icmp .ne 9, 3) := by decide +kernel
theorem d1_82 : decode prog_59_method_11_code 82 = .ok (.sipush 159, 3) := by decide +kernel
theorem d1_85 : decode prog_59_method_11_code 85 = .ok (.goto 5, 3) := by decide +kernel
theorem d1_88 : decode prog_59_method_11_code 88 = .ok (.iload 6, 2) := by decide +kernel
theorem d1_90 : decode prog_59_method_11_code 90 = .ok (.istore 6, 2) := by decide +kernel
theorem d1_92 : decode prog_59_method_11_code 92 = .ok (.goto 54, 3) := by decide +kernel
theorem d1_95 : decode prog_59_method_11_code 95 = .ok (.iload_n 3, 1) := by decide +kernel
theorem d1_96 : decode prog_59_method_11_code 96 = .ok (.sipush 240, 3) := by decide +kernel
theorem d1_99 : decode prog_59_method_11_code 99 = .ok (.if_icmp .lt 47, 3) := by decide +kernel
theorem d1_102 : decode prog_59_method_11_code 102 = .ok (.iload_n 3, 1) := by decide +kernel
theorem d1_103 : decode prog_59_method_11_code 103 = .ok (.sipush 244, 3) := by decide +kernel
theorem d1_106 : decode prog_59_method_11_code 106 = .ok (.if_icmp .gt 40, 3) := by decide +kernel
theorem d1_109 : decode prog_59_method_11_code 109 = .ok (.iconst 4, 1) := by decide +kernel
theorem d1_110 : decode prog_59_method_11_code 110 = .ok (.istore 4, 2) := by decide +kernel
theorem d1_112 : decode prog_59_method_11_code 112 = .ok (.iload_n 3, 1) := by decide +kernel
theorem d1_113 : decode prog_59_method_11_code 113 = .ok (.sipush 240, 3) := by decide +kernel
theorem d1_116 : decode prog_59_method_11_code 116 = .ok (.if_icmp .ne 9, 3) := by decide +kernel
theorem d1_119 : decode prog_59_method_11_code 119 = .ok (.sipush 144, 3) := by decide +kernel
theorem d1_122 : decode prog_59_method_11_code 122 = .ok (.goto 5, 3) := by decide +kernel
theorem d1_125 : decode prog_59_method_11_code 125 = .ok (.iload 5, 2) := by decide +kernel
theorem d1_127 : decode prog_59_method_11_code 127 = .ok (.istore 5, 2) := by decide +kernel
theorem d1_129 : decode prog_59_method_11_code 129 = .ok (.iload_n 3, 1) := by decide +kernel
theorem d1_130 : decode prog_59_method_11_code 130 = .ok (.sipush 244, 3) := by decide +kernel
theorem d1_133 : decode prog_59_method_11_code 133 = .ok (.if_icmp .ne 9, 3) := by decide +kernel
theorem d1_136 : decode prog_59_method_11_code 136 = .ok (.sipush 143, 3) := by decide +kernel
theorem d1_139 : decode prog_59_method_11_code 139 = .ok (.goto 5, 3) := by decide +kernel
theorem d1_142 : decode prog_59_method_11_code 142 = .ok (.iload 6, 2) := by decide +kernel
theorem d1_144 : decode prog_59_method_11_code 144 = .ok (.istore 6, 2) := by decide +kernel
theorem d1_146 : decode prog_59_method_11_code 146 = .ok (.iload 4, 2) := by decide +kernel
theorem d1_148 : decode prog_59_method_11_code 148 = .ok (.ifCond .le 43, 3) := by decide +kernel
theorem d1_151 : decode prog_59_method_11_code 151 = .ok (.iload_n 2, 1) := by decide +kernel
theorem d1_152 : decode prog_59_method_11_code 152 = .ok (.iload_n 1, 1) := by decide +kernel
theorem d1_153 : decode prog_59_method_11_code 153 = .ok (.isub, 1) := by decide +kernel
theorem d1_154 : decode prog_59_method_11_code 154 = .ok (.iload 4, 2) := by decide +kernel
theorem d1_156 : decode prog_59_method_11_code 156 = .ok (.if_icmp .lt 35, 3) := by decide +kernel
theorem d1_159 : decode prog_59_method_11_code 159 = .ok (.aload_n 0, 1) := by decide +kernel
theorem d1_160 : decode prog_59_method_11_code 160 = .ok (.iload_n 1, 1) := by decide +kernel
theorem d1_161 : decode prog_59_method_11_code 161 = .ok (.iconst 1, 1) := by decide +kernel
theorem d1_162 : decode prog_59_method_11_code 162 = .ok (.iadd, 1) := by decide +kernel
theorem d1_163 : decode prog_59_method_11_code 163 = .ok (.baload, 1) := by decide +kernel
theorem d1_164 : decode prog_59_method_11_code 164 = .ok (.sipush 255, 3) := by decide +kernel
theorem d1_167 : decode prog_59_method_11_code 167 = .ok (.iand, 1) := by decide +kernel
theorem d1_168 : decode prog_59_method_11_code 168 = .ok (.iload 5, 2) := by decide +kernel
theorem d1_170 : decode prog_59_method_11_code 170 = .ok (.if_icmp .lt 21, 3) := by decide +kernel
theorem d1_173 : decode prog_59_method_11_code 173 = .ok (.aload_n 0, 1) := by decide +kernel
theorem d1_174 : decode prog_59_method_11_code 174 = .ok (.iload_n 1, 1) := by decide +kernel
theorem d1_175 : decode prog_59_method_11_code 175 = .ok (.iconst 1, 1) := by decide +kernel
theorem d1_176 : decode prog_59_method_11_code 176 = .ok (.iadd, 1) := by decide +kernel
theorem d1_177 : decode prog_59_method_11_code 177 = .ok (.baload, 1) := by decide +kernel
theorem d1_178 : decode prog_59_method_11_code 178 = .ok (.sipush 255, 3) := by decide +kernel
theorem d1_181 : decode prog_59_method_11_code 181 = .ok (.iand, 1) := by decide +kernel
theorem d1_182 : decode prog_59_method_11_code 182 = .ok (.iload 6, 2) := by decide +kernel
theorem d1_184 : decode prog_59_method_11_code 184 = .ok (.if_icmp .gt 7, 3) := by decide +kernel
theorem d1_187 : decode prog_59_method_11_code 187 = .ok (.iconst 1, 1) := by decide +kernel
theorem d1_188 : decode prog_59_method_11_code 188 = .ok (.goto 4, 3) := by decide +kernel
theorem d1_191 : decode prog_59_method_11_code 191 = .ok (.iconst 0, 1) := by decide +kernel
theorem d1_192 : decode prog_59_method_11_code 192 = .ok (.istore 7, 2) := by decide +kernel
theorem d1_194 : decode prog_59_method_11_code 194 = .ok (.iconst 2, 1) := by decide +kernel
theorem d1_195 : decode prog_59_method_11_code 195 = .ok (.istore 8, 2) := by decide +kernel
theorem d1_197 : decode prog_59_method_11_code 197 = .ok (.iload 7, 2) := by decide +kernel
theorem d1_199 : decode prog_59_method_11_code 199 = .ok (.ifCond .eq 39, 3) := by decide +kernel
theorem d1_202 : decode prog_59_method_11_code 202 = .ok (.iload 8, 2) := by decide +kernel
theorem d1_204 : decode prog_59_method_11_code 204 = .ok (.iload 4, 2) := by decide +kernel
theorem d1_206 : decode prog_59_method_11_code 206 = .ok (.if_icmp .ge 32, 3) := by decide +kernel
theorem d1_209 : decode prog_59_method_11_code 209 = .ok (.aload_n 0, 1) := by decide +kernel
theorem d1_210 : decode prog_59_method_11_code 210 = .ok (.iload_n 1, 1) := by decide +kernel
theorem d1_211 : decode prog_59_method_11_code 211 = .ok (.iload 8, 2) := by decide +kernel
theorem d1_213 : decode prog_59_method_11_code 213 = .ok (.iadd, 1) := by decide +kernel
theorem d1_214 : decode prog_59_method_11_code 214 = .ok (.baload, 1) := by decide +kernel
theorem d1_215 : decode prog_59_method_11_code 215 = .ok (.sipush 192, 3) := by decide +kernel
theorem d1_218 : decode prog_59_method_11_code 218 = .ok (.iand, 1) := by decide +kernel
theorem d1_219 : decode prog_59_method_11_code 219 = .ok (.sipush 128, 3) := by decide +kernel
theorem d1_222 : decode prog_59_method_11_code 222 = .ok (.if_icmp .ne 7, 3) := by decide +kernel
theorem d1_225 : decode prog_59_method_11_code 225 = .ok (.iconst 1, 1) := by decide +kernel
theorem d1_226 : decode prog_59_method_11_code 226 = .ok (.goto 4, 3) := by decide +kernel
theorem d1_229 : decode prog_59_method_11_code 229 = .ok (.iconst 0, 1) := by decide +kernel
theorem d1_230 : decode prog_59_method_11_code 230 = .ok (.istore 7, 2) := by decide +kernel
theorem d1_232 : decode prog_59_method_11_code 232 = .ok (.iinc 8 1, 3) := by decide +kernel
theorem d1_235 : decode prog_59_method_11_code 235 = .ok (.goto (-38), 3) := by decide +kernel
theorem d1_238 : decode prog_59_method_11_code 238 = .ok (.iload 7, 2) := by decide +kernel
theorem d1_240 : decode prog_59_method_11_code 240 = .ok (.ifCond .eq 10, 3) := by decide +kernel
theorem d1_243 : decode prog_59_method_11_code 243 = .ok (.iload_n 1, 1) := by decide +kernel
theorem d1_244 : decode prog_59_method_11_code 244 = .ok (.iload 4, 2) := by decide +kernel
theorem d1_246 : decode prog_59_method_11_code 246 = .ok (.iadd, 1) := by decide +kernel
theorem d1_247 : decode prog_59_method_11_code 247 = .ok (.goto 4, 3) := by decide +kernel
theorem d1_250 : decode prog_59_method_11_code 250 = .ok (.iconst (-1), 1) := by decide +kernel
theorem d1_251 : decode prog_59_method_11_code 251 = .ok (.ireturn, 1) := by decide +kernel
theorem pn_1 : plainName "com/example/litera/litera/Utf8" = true := by first | (simp [plainName, overriddenIn]; done) | decide +kernel
def f_seq (i to : Int32) (B : Int32 → Int32) : Int32 := (if ((B i) &&& (255 : Int32)) < (194 : Int32) then (-1 : Int32) else (if (223 : Int32) < ((B i) &&& (255 : Int32)) then (if (239 : Int32) < ((B i) &&& (255 : Int32)) then (if (244 : Int32) < ((B i) &&& (255 : Int32)) then (-1 : Int32) else (if ((B i) &&& (255 : Int32)) = (240 : Int32) then (if (to - i) < (4 : Int32) then (-1 : Int32) else (if ((B (i + (1 : Int32))) &&& (255 : Int32)) < (144 : Int32) then (-1 : Int32) else (if (191 : Int32) < ((B (i + (1 : Int32))) &&& (255 : Int32)) then (-1 : Int32) else (if ((B (i + (2 : Int32))) &&& (192 : Int32)) = (128 : Int32) then (if ((B (i + (3 : Int32))) &&& (192 : Int32)) = (128 : Int32) then (i + (4 : Int32)) else (-1 : Int32)) else (-1 : Int32))))) else (if ((B i) &&& (255 : Int32)) = (244 : Int32) then (if (to - i) < (4 : Int32) then (-1 : Int32) else (if ((B (i + (1 : Int32))) &&& (255 : Int32)) < (128 : Int32) then (-1 : Int32) else (if (143 : Int32) < ((B (i + (1 : Int32))) &&& (255 : Int32)) then (-1 : Int32) else (if ((B (i + (2 : Int32))) &&& (192 : Int32)) = (128 : Int32) then (if ((B (i + (3 : Int32))) &&& (192 : Int32)) = (128 : Int32) then (i + (4 : Int32)) else (-1 : Int32)) else (-1 : Int32))))) else (if (to - i) < (4 : Int32) then (-1 : Int32) else (if ((B (i + (1 : Int32))) &&& (255 : Int32)) < (128 : Int32) then (-1 : Int32) else (if (191 : Int32) < ((B (i + (1 : Int32))) &&& (255 : Int32)) then (-1 : Int32) else (if ((B (i + (2 : Int32))) &&& (192 : Int32)) = (128 : Int32) then (if ((B (i + (3 : Int32))) &&& (192 : Int32)) = (128 : Int32) then (i + (4 : Int32)) else (-1 : Int32)) else (-1 : Int32)))))))) else (if ((B i) &&& (255 : Int32)) = (224 : Int32) then (if (to - i) < (3 : Int32) then (-1 : Int32) else (if ((B (i + (1 : Int32))) &&& (255 : Int32)) < (160 : Int32) then (-1 : Int32) else (if (191 : Int32) < ((B (i + (1 : Int32))) &&& (255 : Int32)) then (-1 : Int32) else (if ((B (i + (2 : Int32))) &&& (192 : Int32)) = (128 : Int32) then (i + (3 : Int32)) else (-1 : Int32))))) else (if ((B i) &&& (255 : Int32)) = (237 : Int32) then (if (to - i) < (3 : Int32) then (-1 : Int32) else (if ((B (i + (1 : Int32))) &&& (255 : Int32)) < (128 : Int32) then (-1 : Int32) else (if (159 : Int32) < ((B (i + (1 : Int32))) &&& (255 : Int32)) then (-1 : Int32) else (if ((B (i + (2 : Int32))) &&& (192 : Int32)) = (128 : Int32) then (i + (3 : Int32)) else (-1 : Int32))))) else (if (to - i) < (3 : Int32) then (-1 : Int32) else (if ((B (i + (1 : Int32))) &&& (255 : Int32)) < (128 : Int32) then (-1 : Int32) else (if (191 : Int32) < ((B (i + (1 : Int32))) &&& (255 : Int32)) then (-1 : Int32) else (if ((B (i + (2 : Int32))) &&& (192 : Int32)) = (128 : Int32) then (i + (3 : Int32)) else (-1 : Int32)))))))) else (if (to - i) < (2 : Int32) then (-1 : Int32) else (if ((B (i + (1 : Int32))) &&& (255 : Int32)) < (128 : Int32) then (-1 : Int32) else (if (191 : Int32) < ((B (i + (1 : Int32))) &&& (255 : Int32)) then (-1 : Int32) else (i + (2 : Int32)))))))
theorem ef_rm1 (m : MethodId) (x0 : Addr) (x1 : Int32) (x2 : Int32) : entryFrame m #[(.ref x0), (.int x1), (.int x2)] 9 = mkF m 0 #[.val (.ref x0), .val (.int x1), .val (.int x2), .unset, .unset, .unset, .unset, .unset, .unset] [] := by first | (simp [entryFrame, mkF, argsToLocals, Value.category]; done) | rfl
set_option maxRecDepth 65536 in
set_option maxHeartbeats 40000000 in
theorem rm1 (l : Launch) (Z : State) (a0 : Array Value) (hw : ∀ d ∈ tables_1, d.before a0 Z = true) (ws : List Jvm.Cond) (a : Addr) (i : Int32) (to : Int32) (B : Int32 → Int32) (h0 : Heap) (hB : BA Z h0 a .byte (6 : Int32) B) (hi0 : ¬ i < 0 ∧ i < 6) (hi1 : ¬ (i + (1 : Int32)) < 0 ∧ (i + (1 : Int32)) < 6) (hi2 : ¬ (i + (2 : Int32)) < 0 ∧ (i + (2 : Int32)) < 6) (hi3 : ¬ (i + (3 : Int32)) < 0 ∧ (i + (3 : Int32)) < 6) :
    MetFree l (⟨"com/example/litera/litera/Utf8", "sequenceEnd", "([BII)I"⟩ : MethodName) (head1 (Jvm.Cond.code (⟨"com/example/litera/litera/Utf8", "sequenceEnd", "([BII)I"⟩ : MethodName) prog_59_method_11_code 9 (some .int) :: ws) ({ frames := 0, cells := 0, slots := 0, locals := 0 } : Room)) (fun aQ U => aQ = #[(.ref a), (.int i), (.int to)] ∧ Z.Warmed39 U.vm ∧ U.heap = h0) (fun _ _ _ _ _ => True) (fun _ U o U' => ∃ vQ LQ, o = .returned vQ ∧ PQ (some (.int (f_seq i to B))) h0 vQ U'.heap LQ ∧ FrameEnd U o U' LQ ({ frames := 0, cells := 0, slots := 0, locals := 0 } : Room).cells ({ frames := 0, cells := 0, slots := 0, locals := 0 } : Room).slots) := by
  refine MetFree.of_bodySF (plainFor_of_name pn_1) hisR ?_
  intro p e s m args below meth c s₁ Bd hml0 hP hK
  obtain ⟨rfl, hZ, hh⟩ := hP
  have hx := Bd.exec
  have hby := Bd.bytes
  have hml : c.maxLocals = 9 := hml0
  have hown : s.vm.findClass "com/example/litera/litera/Utf8" = some m.cls := findClass_of_methodNamed Bd.named
  have hnm := (name_of_methodNamed Bd.named Bd.method).1
  have X0 : Stand p l e ({ frames := 0, cells := 0, slots := 0, locals := 0 } : Room) s m #[(.ref a), (.int i), (.int to)] below meth c s₁ [] 0 0 := Stand.of_body Bd
  have e0 : s₁.heap = h0 := by rw [← hh, Bd.state]; rfl
  refine Gl.out ?_
  refine Gl.go ?_ (fun t k => castTop (ef_rm1 m a i to) k)
  show Gl _ _ _ _ (s₁.setTop (mkF m 0 #[.val (.ref a), .val (.int i), .val (.int to), .unset, .unset, .unset, .unset, .unset, .unset] []))
  refine Gl.go ?_ (fun t k => XS.aloadN X0.here hx rfl (hb hby d1_0) rfl rfl k)
  show Gl _ _ _ _ (s₁.setTop (mkF m 1 #[.val (.ref a), .val (.int i), .val (.int to), .unset, .unset, .unset, .unset, .unset, .unset] [(.ref a)]))
  refine Gl.go ?_ (fun t k => XS.iloadN X0.here hx rfl (hb hby d1_1) rfl k)
  show Gl _ _ _ _ (s₁.setTop (mkF m 2 #[.val (.ref a), .val (.int i), .val (.int to), .unset, .unset, .unset, .unset, .unset, .unset] [(.int i), (.ref a)]))
  refine Gl.go ?_ (BA.rdB hB X0 hx hZ e0 hi0.1 hi0.2 (g := (mkF m 2 #[.val (.ref a), .val (.int i), .val (.int to), .unset, .unset, .unset, .unset, .unset, .unset] [(.int i), (.ref a)])) rfl rfl (hb hby d1_2))
  show Gl _ _ _ _ (s₁.setTop (mkF m 3 #[.val (.ref a), .val (.int i), .val (.int to), .unset, .unset, .unset, .unset, .unset, .unset] [(.int (B i))]))
  refine Gl.go ?_ (fun t k => XS.sipush X0.here hx rfl (hb hby d1_3) k)
  show Gl _ _ _ _ (s₁.setTop (mkF m 6 #[.val (.ref a), .val (.int i), .val (.int to), .unset, .unset, .unset, .unset, .unset, .unset] [(.int (255 : Int32)), (.int (B i))]))
  refine Gl.go ?_ (fun t k => XS.iand X0.here hx rfl (hb hby d1_6) rfl k)
  show Gl _ _ _ _ (s₁.setTop (mkF m 7 #[.val (.ref a), .val (.int i), .val (.int to), .unset, .unset, .unset, .unset, .unset, .unset] [(.int ((B i) &&& (255 : Int32)))]))
  refine Gl.go ?_ (fun t k => XS.istoreN X0.here hx rfl (hb hby d1_7) rfl (l' := #[.val (.ref a), .val (.int i), .val (.int to), .val (.int ((B i) &&& (255 : Int32))), .unset, .unset, .unset, .unset, .unset]) rfl k)
  show Gl _ _ _ _ (s₁.setTop (mkF m 8 #[.val (.ref a), .val (.int i), .val (.int to), .val (.int ((B i) &&& (255 : Int32))), .unset, .unset, .unset, .unset, .unset] []))
  refine Gl.go ?_ (fun t k => XS.iconst X0.here hx rfl (hb hby d1_8) k)
  show Gl _ _ _ _ (s₁.setTop (mkF m 9 #[.val (.ref a), .val (.int i), .val (.int to), .val (.int ((B i) &&& (255 : Int32))), .unset, .unset, .unset, .unset, .unset] [(.int (0 : Int32))]))
  refine Gl.go ?_ (fun t k => XS.istore X0.here hx rfl (hb hby d1_9) rfl (l' := #[.val (.ref a), .val (.int i), .val (.int to), .val (.int ((B i) &&& (255 : Int32))), .val (.int (0 : Int32)), .unset, .unset, .unset, .unset]) rfl k)
  show Gl _ _ _ _ (s₁.setTop (mkF m 11 #[.val (.ref a), .val (.int i), .val (.int to), .val (.int ((B i) &&& (255 : Int32))), .val (.int (0 : Int32)), .unset, .unset, .unset, .unset] []))
  refine Gl.go ?_ (fun t k => XS.sipush X0.here hx rfl (hb hby d1_11) k)
  show Gl _ _ _ _ (s₁.setTop (mkF m 14 #[.val (.ref a), .val (.int i), .val (.int to), .val (.int ((B i) &&& (255 : Int32))), .val (.int (0 : Int32)), .unset, .unset, .unset, .unset] [(.int (128 : Int32))]))
  refine Gl.go ?_ (fun t k => XS.istore X0.here hx rfl (hb hby d1_14) rfl (l' := #[.val (.ref a), .val (.int i), .val (.int to), .val (.int ((B i) &&& (255 : Int32))), .val (.int (0 : Int32)), .val (.int (128 : Int32)), .unset, .unset, .unset]) rfl k)
  show Gl _ _ _ _ (s₁.setTop (mkF m 16 #[.val (.ref a), .val (.int i), .val (.int to), .val (.int ((B i) &&& (255 : Int32))), .val (.int (0 : Int32)), .val (.int (128 : Int32)), .unset, .unset, .unset] []))
  refine Gl.go ?_ (fun t k => XS.sipush X0.here hx rfl (hb hby d1_16) k)
  show Gl _ _ _ _ (s₁.setTop (mkF m 19 #[.val (.ref a), .val (.int i), .val (.int to), .val (.int ((B i) &&& (255 : Int32))), .val (.int (0 : Int32)), .val (.int (128 : Int32)), .unset, .unset, .unset] [(.int (191 : Int32))]))
  refine Gl.go ?_ (fun t k => XS.istore X0.here hx rfl (hb hby d1_19) rfl (l' := #[.val (.ref a), .val (.int i), .val (.int to), .val (.int ((B i) &&& (255 : Int32))), .val (.int (0 : Int32)), .val (.int (128 : Int32)), .val (.int (191 : Int32)), .unset, .unset]) rfl k)
  show Gl _ _ _ _ (s₁.setTop (mkF m 21 #[.val (.ref a), .val (.int i), .val (.int to), .val (.int ((B i) &&& (255 : Int32))), .val (.int (0 : Int32)), .val (.int (128 : Int32)), .val (.int (191 : Int32)), .unset, .unset] []))
  refine Gl.go ?_ (fun t k => XS.iloadN X0.here hx rfl (hb hby d1_21) rfl k)
  show Gl _ _ _ _ (s₁.setTop (mkF m 22 #[.val (.ref a), .val (.int i), .val (.int to), .val (.int ((B i) &&& (255 : Int32))), .val (.int (0 : Int32)), .val (.int (128 : Int32)), .val (.int (191 : Int32)), .unset, .unset] [(.int ((B i) &&& (255 : Int32)))]))
  refine Gl.go ?_ (fun t k => XS.sipush X0.here hx rfl (hb hby d1_22) k)
  show Gl _ _ _ _ (s₁.setTop (mkF m 25 #[.val (.ref a), .val (.int i), .val (.int to), .val (.int ((B i) &&& (255 : Int32))), .val (.int (0 : Int32)), .val (.int (128 : Int32)), .val (.int (191 : Int32)), .unset, .unset] [(.int (194 : Int32)), (.int ((B i) &&& (255 : Int32)))]))
  by_cases hc30 : ((B i) &&& (255 : Int32)) < (194 : Int32)
  · refine Gl.go ?_ (fun t k => XS.icmpYes X0.here hx rfl (pc0 := 25) (pc' := 41) rfl (hb hby d1_25) rfl (tlt hc30).1 (by decide) (by decide) k)
    show Gl _ _ _ _ (s₁.setTop (mkF m 41 #[.val (.ref a), .val (.int i), .val (.int to), .val (.int ((B i) &&& (255 : Int32))), .val (.int (0 : Int32)), .val (.int (128 : Int32)), .val (.int (191 : Int32)), .unset, .unset] []))
    refine Gl.go ?_ (fun t k => XS.iloadN X0.here hx rfl (hb hby d1_41) rfl k)
    show Gl _ _ _ _ (s₁.setTop (mkF m 42 #[.val (.ref a), .val (.int i), .val (.int to), .val (.int ((B i) &&& (255 : Int32))), .val (.int (0 : Int32)), .val (.int (128 : Int32)), .val (.int (191 : Int32)), .unset, .unset] [(.int ((B i) &&& (255 : Int32)))]))
    refine Gl.go ?_ (fun t k => XS.sipush X0.here hx rfl (hb hby d1_42) k)
    show Gl _ _ _ _ (s₁.setTop (mkF m 45 #[.val (.ref a), .val (.int i), .val (.int to), .val (.int ((B i) &&& (255 : Int32))), .val (.int (0 : Int32)), .val (.int (128 : Int32)), .val (.int (191 : Int32)), .unset, .unset] [(.int (224 : Int32)), (.int ((B i) &&& (255 : Int32)))]))
    refine Gl.go ?_ (fun t k => XS.icmpYes X0.here hx rfl (pc0 := 45) (pc' := 95) rfl (hb hby d1_45) rfl (tlt (iv_lt' (k := 224) rfl (by have q0 := iv_lt (k := 194) rfl hc30; omega) : ((B i) &&& (255 : Int32)) < (224 : Int32))).1 (by decide) (by decide) k)
    show Gl _ _ _ _ (s₁.setTop (mkF m 95 #[.val (.ref a), .val (.int i), .val (.int to), .val (.int ((B i) &&& (255 : Int32))), .val (.int (0 : Int32)), .val (.int (128 : Int32)), .val (.int (191 : Int32)), .unset, .unset] []))
    refine Gl.go ?_ (fun t k => XS.iloadN X0.here hx rfl (hb hby d1_95) rfl k)
    show Gl _ _ _ _ (s₁.setTop (mkF m 96 #[.val (.ref a), .val (.int i), .val (.int to), .val (.int ((B i) &&& (255 : Int32))), .val (.int (0 : Int32)), .val (.int (128 : Int32)), .val (.int (191 : Int32)), .unset, .unset] [(.int ((B i) &&& (255 : Int32)))]))
    refine Gl.go ?_ (fun t k => XS.sipush X0.here hx rfl (hb hby d1_96) k)
    show Gl _ _ _ _ (s₁.setTop (mkF m 99 #[.val (.ref a), .val (.int i), .val (.int to), .val (.int ((B i) &&& (255 : Int32))), .val (.int (0 : Int32)), .val (.int (128 : Int32)), .val (.int (191 : Int32)), .unset, .unset] [(.int (240 : Int32)), (.int ((B i) &&& (255 : Int32)))]))
    refine Gl.go ?_ (fun t k => XS.icmpYes X0.here hx rfl (pc0 := 99) (pc' := 146) rfl (hb hby d1_99) rfl (tlt (iv_lt' (k := 240) rfl (by have q0 := iv_lt (k := 194) rfl hc30; omega) : ((B i) &&& (255 : Int32)) < (240 : Int32))).1 (by decide) (by decide) k)
    show Gl _ _ _ _ (s₁.setTop (mkF m 146 #[.val (.ref a), .val (.int i), .val (.int to), .val (.int ((B i) &&& (255 : Int32))), .val (.int (0 : Int32)), .val (.int (128 : Int32)), .val (.int (191 : Int32)), .unset, .unset] []))
    refine Gl.go ?_ (fun t k => XS.iload X0.here hx rfl (hb hby d1_146) rfl k)
    show Gl _ _ _ _ (s₁.setTop (mkF m 148 #[.val (.ref a), .val (.int i), .val (.int to), .val (.int ((B i) &&& (255 : Int32))), .val (.int (0 : Int32)), .val (.int (128 : Int32)), .val (.int (191 : Int32)), .unset, .unset] [(.int (0 : Int32))]))
    refine Gl.go ?_ (fun t k => XS.ifYes X0.here hx rfl (pc0 := 148) (pc' := 191) rfl (hb hby d1_148) rfl ((if0 _ _).trans (flt (by decide : ¬ ((0 : Int32) < (0 : Int32)))).2.2.2) (by decide) (by decide) k)
    show Gl _ _ _ _ (s₁.setTop (mkF m 191 #[.val (.ref a), .val (.int i), .val (.int to), .val (.int ((B i) &&& (255 : Int32))), .val (.int (0 : Int32)), .val (.int (128 : Int32)), .val (.int (191 : Int32)), .unset, .unset] []))
    refine Gl.go ?_ (fun t k => XS.iconst X0.here hx rfl (hb hby d1_191) k)
    show Gl _ _ _ _ (s₁.setTop (mkF m 192 #[.val (.ref a), .val (.int i), .val (.int to), .val (.int ((B i) &&& (255 : Int32))), .val (.int (0 : Int32)), .val (.int (128 : Int32)), .val (.int (191 : Int32)), .unset, .unset] [(.int (0 : Int32))]))
    refine Gl.go ?_ (fun t k => XS.istore X0.here hx rfl (hb hby d1_192) rfl (l' := #[.val (.ref a), .val (.int i), .val (.int to), .val (.int ((B i) &&& (255 : Int32))), .val (.int (0 : Int32)), .val (.int (128 : Int32)), .val (.int (191 : Int32)), .val (.int (0 : Int32)), .unset]) rfl k)
    show Gl _ _ _ _ (s₁.setTop (mkF m 194 #[.val (.ref a), .val (.int i), .val (.int to), .val (.int ((B i) &&& (255 : Int32))), .val (.int (0 : Int32)), .val (.int (128 : Int32)), .val (.int (191 : Int32)), .val (.int (0 : Int32)), .unset] []))
    refine Gl.go ?_ (fun t k => XS.iconst X0.here hx rfl (hb hby d1_194) k)
    show Gl _ _ _ _ (s₁.setTop (mkF m 195 #[.val (.ref a), .val (.int i), .val (.int to), .val (.int ((B i) &&& (255 : Int32))), .val (.int (0 : Int32)), .val (.int (128 : Int32)), .val (.int (191 : Int32)), .val (.int (0 : Int32)), .unset] [(.int (2 : Int32))]))
    refine Gl.go ?_ (fun t k => XS.istore X0.here hx rfl (hb hby d1_195) rfl (l' := #[.val (.ref a), .val (.int i), .val (.int to), .val (.int ((B i) &&& (255 : Int32))), .val (.int (0 : Int32)), .val (.int (128 : Int32)), .val (.int (191 : Int32)), .val (.int (0 : Int32)), .val (.int (2 : Int32))]) rfl k)
    show Gl _ _ _ _ (s₁.setTop (mkF m 197 #[.val (.ref a), .val (.int i), .val (.int to), .val (.int ((B i) &&& (255 : Int32))), .val (.int (0 : Int32)), .val (.int (128 : Int32)), .val (.int (191 : Int32)), .val (.int (0 : Int32)), .val (.int (2 : Int32))] []))
    refine Gl.go ?_ (fun t k => XS.iload X0.here hx rfl (hb hby d1_197) rfl k)
    show Gl _ _ _ _ (s₁.setTop (mkF m 199 #[.val (.ref a), .val (.int i), .val (.int to), .val (.int ((B i) &&& (255 : Int32))), .val (.int (0 : Int32)), .val (.int (128 : Int32)), .val (.int (191 : Int32)), .val (.int (0 : Int32)), .val (.int (2 : Int32))] [(.int (0 : Int32))]))
    refine Gl.go ?_ (fun t k => XS.ifYes X0.here hx rfl (pc0 := 199) (pc' := 238) rfl (hb hby d1_199) rfl ((if0 _ _).trans (teq (by decide : (0 : Int32) = (0 : Int32))).1) (by decide) (by decide) k)
    show Gl _ _ _ _ (s₁.setTop (mkF m 238 #[.val (.ref a), .val (.int i), .val (.int to), .val (.int ((B i) &&& (255 : Int32))), .val (.int (0 : Int32)), .val (.int (128 : Int32)), .val (.int (191 : Int32)), .val (.int (0 : Int32)), .val (.int (2 : Int32))] []))
    refine Gl.go ?_ (fun t k => XS.iload X0.here hx rfl (hb hby d1_238) rfl k)
    show Gl _ _ _ _ (s₁.setTop (mkF m 240 #[.val (.ref a), .val (.int i), .val (.int to), .val (.int ((B i) &&& (255 : Int32))), .val (.int (0 : Int32)), .val (.int (128 : Int32)), .val (.int (191 : Int32)), .val (.int (0 : Int32)), .val (.int (2 : Int32))] [(.int (0 : Int32))]))
    refine Gl.go ?_ (fun t k => XS.ifYes X0.here hx rfl (pc0 := 240) (pc' := 250) rfl (hb hby d1_240) rfl ((if0 _ _).trans (teq (by decide : (0 : Int32) = (0 : Int32))).1) (by decide) (by decide) k)
    show Gl _ _ _ _ (s₁.setTop (mkF m 250 #[.val (.ref a), .val (.int i), .val (.int to), .val (.int ((B i) &&& (255 : Int32))), .val (.int (0 : Int32)), .val (.int (128 : Int32)), .val (.int (191 : Int32)), .val (.int (0 : Int32)), .val (.int (2 : Int32))] []))
    refine Gl.go ?_ (fun t k => XS.iconst X0.here hx rfl (hb hby d1_250) k)
    show Gl _ _ _ _ (s₁.setTop (mkF m 251 #[.val (.ref a), .val (.int i), .val (.int to), .val (.int ((B i) &&& (255 : Int32))), .val (.int (0 : Int32)), .val (.int (128 : Int32)), .val (.int (191 : Int32)), .val (.int (0 : Int32)), .val (.int (2 : Int32))] [(.int (-1 : Int32))]))
    obtain ⟨fs, hr, hrun, hended, hW, hsame⟩ := X0.leave (v := some (.int (-1 : Int32))) (fun h => by rw [Bd.returns] at h; cases h) (BodyLoose.notSynchronized Bd)
    exact Gl.mk ⟨_, _, retI X0 hx Bd.returns (hb hby d1_251) hr, hrun, hended, _, _, rfl, ⟨congrArg (fun z => some (Value.int z)) ((if_pos hc30).trans (rfl)).symm, rfl, e0⟩, ⟨_, rfl⟩, hW, hsame.mono (by decide) (by decide)⟩
  · refine Gl.go ?_ (fun t k => XS.icmpNo X0.here hx rfl (hb hby d1_25) rfl (flt hc30).1 k)
    show Gl _ _ _ _ (s₁.setTop (mkF m 28 #[.val (.ref a), .val (.int i), .val (.int to), .val (.int ((B i) &&& (255 : Int32))), .val (.int (0 : Int32)), .val (.int (128 : Int32)), .val (.int (191 : Int32)), .unset, .unset] []))
    refine Gl.go ?_ (fun t k => XS.iloadN X0.here hx rfl (hb hby d1_28) rfl k)
    show Gl _ _ _ _ (s₁.setTop (mkF m 29 #[.val (.ref a), .val (.int i), .val (.int to), .val (.int ((B i) &&& (255 : Int32))), .val (.int (0 : Int32)), .val (.int (128 : Int32)), .val (.int (191 : Int32)), .unset, .unset] [(.int ((B i) &&& (255 : Int32)))]))
    refine Gl.go ?_ (fun t k => XS.sipush X0.here hx rfl (hb hby d1_29) k)
    show Gl _ _ _ _ (s₁.setTop (mkF m 32 #[.val (.ref a), .val (.int i), .val (.int to), .val (.int ((B i) &&& (255 : Int32))), .val (.int (0 : Int32)), .val (.int (128 : Int32)), .val (.int (191 : Int32)), .unset, .unset] [(.int (223 : Int32)), (.int ((B i) &&& (255 : Int32)))]))
    by_cases hc31 : (223 : Int32) < ((B i) &&& (255 : Int32))
    · refine Gl.go ?_ (fun t k => XS.icmpYes X0.here hx rfl (pc0 := 32) (pc' := 41) rfl (hb hby d1_32) rfl (tlt hc31).2.2.1 (by decide) (by decide) k)
      show Gl _ _ _ _ (s₁.setTop (mkF m 41 #[.val (.ref a), .val (.int i), .val (.int to), .val (.int ((B i) &&& (255 : Int32))), .val (.int (0 : Int32)), .val (.int (128 : Int32)), .val (.int (191 : Int32)), .unset, .unset] []))
      refine Gl.go ?_ (fun t k => XS.iloadN X0.here hx rfl (hb hby d1_41) rfl k)
      show Gl _ _ _ _ (s₁.setTop (mkF m 42 #[.val (.ref a), .val (.int i), .val (.int to), .val (.int ((B i) &&& (255 : Int32))), .val (.int (0 : Int32)), .val (.int (128 : Int32)), .val (.int (191 : Int32)), .unset, .unset] [(.int ((B i) &&& (255 : Int32)))]))
      refine Gl.go ?_ (fun t k => XS.sipush X0.here hx rfl (hb hby d1_42) k)
      show Gl _ _ _ _ (s₁.setTop (mkF m 45 #[.val (.ref a), .val (.int i), .val (.int to), .val (.int ((B i) &&& (255 : Int32))), .val (.int (0 : Int32)), .val (.int (128 : Int32)), .val (.int (191 : Int32)), .unset, .unset] [(.int (224 : Int32)), (.int ((B i) &&& (255 : Int32)))]))
      refine Gl.go ?_ (fun t k => XS.icmpNo X0.here hx rfl (hb hby d1_45) rfl (flt (iv_nlt' (k := 224) rfl (by have q0 := iv_nlt (k := 194) rfl hc30; have q1 := iv_gt (k := 223) rfl hc31; omega) : ¬ (((B i) &&& (255 : Int32)) < (224 : Int32)))).1 k)
      show Gl _ _ _ _ (s₁.setTop (mkF m 48 #[.val (.ref a), .val (.int i), .val (.int to), .val (.int ((B i) &&& (255 : Int32))), .val (.int (0 : Int32)), .val (.int (128 : Int32)), .val (.int (191 : Int32)), .unset, .unset] []))
      refine Gl.go ?_ (fun t k => XS.iloadN X0.here hx rfl (hb hby d1_48) rfl k)
      show Gl _ _ _ _ (s₁.setTop (mkF m 49 #[.val (.ref a), .val (.int i), .val (.int to), .val (.int ((B i) &&& (255 : Int32))), .val (.int (0 : Int32)), .val (.int (128 : Int32)), .val (.int (191 : Int32)), .unset, .unset] [(.int ((B i) &&& (255 : Int32)))]))
      refine Gl.go ?_ (fun t k => XS.sipush X0.here hx rfl (hb hby d1_49) k)
      show Gl _ _ _ _ (s₁.setTop (mkF m 52 #[.val (.ref a), .val (.int i), .val (.int to), .val (.int ((B i) &&& (255 : Int32))), .val (.int (0 : Int32)), .val (.int (128 : Int32)), .val (.int (191 : Int32)), .unset, .unset] [(.int (239 : Int32)), (.int ((B i) &&& (255 : Int32)))]))
      by_cases hc32 : (239 : Int32) < ((B i) &&& (255 : Int32))
      · refine Gl.go ?_ (fun t k => XS.icmpYes X0.here hx rfl (pc0 := 52) (pc' := 95) rfl (hb hby d1_52) rfl (tlt hc32).2.2.1 (by decide) (by decide) k)
        show Gl _ _ _ _ (s₁.setTop (mkF m 95 #[.val (.ref a), .val (.int i), .val (.int to), .val (.int ((B i) &&& (255 : Int32))), .val (.int (0 : Int32)), .val (.int (128 : Int32)), .val (.int (191 : Int32)), .unset, .unset] []))
        refine Gl.go ?_ (fun t k => XS.iloadN X0.here hx rfl (hb hby d1_95) rfl k)
        show Gl _ _ _ _ (s₁.setTop (mkF m 96 #[.val (.ref a), .val (.int i), .val (.int to), .val (.int ((B i) &&& (255 : Int32))), .val (.int (0 : Int32)), .val (.int (128 : Int32)), .val (.int (191 : Int32)), .unset, .unset] [(.int ((B i) &&& (255 : Int32)))]))
        refine Gl.go ?_ (fun t k => XS.sipush X0.here hx rfl (hb hby d1_96) k)
        show Gl _ _ _ _ (s₁.setTop (mkF m 99 #[.val (.ref a), .val (.int i), .val (.int to), .val (.int ((B i) &&& (255 : Int32))), .val (.int (0 : Int32)), .val (.int (128 : Int32)), .val (.int (191 : Int32)), .unset, .unset] [(.int (240 : Int32)), (.int ((B i) &&& (255 : Int32)))]))
        refine Gl.go ?_ (fun t k => XS.icmpNo X0.here hx rfl (hb hby d1_99) rfl (flt (iv_nlt' (k := 240) rfl (by have q0 := iv_nlt (k := 194) rfl hc30; have q1 := iv_gt (k := 223) rfl hc31; have q2 := iv_gt (k := 239) rfl hc32; omega) : ¬ (((B i) &&& (255 : Int32)) < (240 : Int32)))).1 k)
        show Gl _ _ _ _ (s₁.setTop (mkF m 102 #[.val (.ref a), .val (.int i), .val (.int to), .val (.int ((B i) &&& (255 : Int32))), .val (.int (0 : Int32)), .val (.int (128 : Int32)), .val (.int (191 : Int32)), .unset, .unset] []))
        refine Gl.go ?_ (fun t k => XS.iloadN X0.here hx rfl (hb hby d1_102) rfl k)
        show Gl _ _ _ _ (s₁.setTop (mkF m 103 #[.val (.ref a), .val (.int i), .val (.int to), .val (.int ((B i) &&& (255 : Int32))), .val (.int (0 : Int32)), .val (.int (128 : Int32)), .val (.int (191 : Int32)), .unset, .unset] [(.int ((B i) &&& (255 : Int32)))]))
        refine Gl.go ?_ (fun t k => XS.sipush X0.here hx rfl (hb hby d1_103) k)
        show Gl _ _ _ _ (s₁.setTop (mkF m 106 #[.val (.ref a), .val (.int i), .val (.int to), .val (.int ((B i) &&& (255 : Int32))), .val (.int (0 : Int32)), .val (.int (128 : Int32)), .val (.int (191 : Int32)), .unset, .unset] [(.int (244 : Int32)), (.int ((B i) &&& (255 : Int32)))]))
        by_cases hc33 : (244 : Int32) < ((B i) &&& (255 : Int32))
        · refine Gl.go ?_ (fun t k => XS.icmpYes X0.here hx rfl (pc0 := 106) (pc' := 146) rfl (hb hby d1_106) rfl (tlt hc33).2.2.1 (by decide) (by decide) k)
          show Gl _ _ _ _ (s₁.setTop (mkF m 146 #[.val (.ref a), .val (.int i), .val (.int to), .val (.int ((B i) &&& (255 : Int32))), .val (.int (0 : Int32)), .val (.int (128 : Int32)), .val (.int (191 : Int32)), .unset, .unset] []))
          refine Gl.go ?_ (fun t k => XS.iload X0.here hx rfl (hb hby d1_146) rfl k)
          show Gl _ _ _ _ (s₁.setTop (mkF m 148 #[.val (.ref a), .val (.int i), .val (.int to), .val (.int ((B i) &&& (255 : Int32))), .val (.int (0 : Int32)), .val (.int (128 : Int32)), .val (.int (191 : Int32)), .unset, .unset] [(.int (0 : Int32))]))
          refine Gl.go ?_ (fun t k => XS.ifYes X0.here hx rfl (pc0 := 148) (pc' := 191) rfl (hb hby d1_148) rfl ((if0 _ _).trans (flt (by decide : ¬ ((0 : Int32) < (0 : Int32)))).2.2.2) (by decide) (by decide) k)
          show Gl _ _ _ _ (s₁.setTop (mkF m 191 #[.val (.ref a), .val (.int i), .val (.int to), .val (.int ((B i) &&& (255 : Int32))), .val (.int (0 : Int32)), .val (.int (128 : Int32)), .val (.int (191 : Int32)), .unset, .unset] []))
          refine Gl.go ?_ (fun t k => XS.iconst X0.here hx rfl (hb hby d1_191) k)
          show Gl _ _ _ _ (s₁.setTop (mkF m 192 #[.val (.ref a), .val (.int i), .val (.int to), .val (.int ((B i) &&& (255 : Int32))), .val (.int (0 : Int32)), .val (.int (128 : Int32)), .val (.int (191 : Int32)), .unset, .unset] [(.int (0 : Int32))]))
          refine Gl.go ?_ (fun t k => XS.istore X0.here hx rfl (hb hby d1_192) rfl (l' := #[.val (.ref a), .val (.int i), .val (.int to), .val (.int ((B i) &&& (255 : Int32))), .val (.int (0 : Int32)), .val (.int (128 : Int32)), .val (.int (191 : Int32)), .val (.int (0 : Int32)), .unset]) rfl k)
          show Gl _ _ _ _ (s₁.setTop (mkF m 194 #[.val (.ref a), .val (.int i), .val (.int to), .val (.int ((B i) &&& (255 : Int32))), .val (.int (0 : Int32)), .val (.int (128 : Int32)), .val (.int (191 : Int32)), .val (.int (0 : Int32)), .unset] []))
          refine Gl.go ?_ (fun t k => XS.iconst X0.here hx rfl (hb hby d1_194) k)
          show Gl _ _ _ _ (s₁.setTop (mkF m 195 #[.val (.ref a), .val (.int i), .val (.int to), .val (.int ((B i) &&& (255 : Int32))), .val (.int (0 : Int32)), .val (.int (128 : Int32)), .val (.int (191 : Int32)), .val (.int (0 : Int32)), .unset] [(.int (2 : Int32))]))
          refine Gl.go ?_ (fun t k => XS.istore X0.here hx rfl (hb hby d1_195) rfl (l' := #[.val (.ref a), .val (.int i), .val (.int to), .val (.int ((B i) &&& (255 : Int32))), .val (.int (0 : Int32)), .val (.int (128 : Int32)), .val (.int (191 : Int32)), .val (.int (0 : Int32)), .val (.int (2 : Int32))]) rfl k)
          show Gl _ _ _ _ (s₁.setTop (mkF m 197 #[.val (.ref a), .val (.int i), .val (.int to), .val (.int ((B i) &&& (255 : Int32))), .val (.int (0 : Int32)), .val (.int (128 : Int32)), .val (.int (191 : Int32)), .val (.int (0 : Int32)), .val (.int (2 : Int32))] []))
          refine Gl.go ?_ (fun t k => XS.iload X0.here hx rfl (hb hby d1_197) rfl k)
          show Gl _ _ _ _ (s₁.setTop (mkF m 199 #[.val (.ref a), .val (.int i), .val (.int to), .val (.int ((B i) &&& (255 : Int32))), .val (.int (0 : Int32)), .val (.int (128 : Int32)), .val (.int (191 : Int32)), .val (.int (0 : Int32)), .val (.int (2 : Int32))] [(.int (0 : Int32))]))
          refine Gl.go ?_ (fun t k => XS.ifYes X0.here hx rfl (pc0 := 199) (pc' := 238) rfl (hb hby d1_199) rfl ((if0 _ _).trans (teq (by decide : (0 : Int32) = (0 : Int32))).1) (by decide) (by decide) k)
          show Gl _ _ _ _ (s₁.setTop (mkF m 238 #[.val (.ref a), .val (.int i), .val (.int to), .val (.int ((B i) &&& (255 : Int32))), .val (.int (0 : Int32)), .val (.int (128 : Int32)), .val (.int (191 : Int32)), .val (.int (0 : Int32)), .val (.int (2 : Int32))] []))
          refine Gl.go ?_ (fun t k => XS.iload X0.here hx rfl (hb hby d1_238) rfl k)
          show Gl _ _ _ _ (s₁.setTop (mkF m 240 #[.val (.ref a), .val (.int i), .val (.int to), .val (.int ((B i) &&& (255 : Int32))), .val (.int (0 : Int32)), .val (.int (128 : Int32)), .val (.int (191 : Int32)), .val (.int (0 : Int32)), .val (.int (2 : Int32))] [(.int (0 : Int32))]))
          refine Gl.go ?_ (fun t k => XS.ifYes X0.here hx rfl (pc0 := 240) (pc' := 250) rfl (hb hby d1_240) rfl ((if0 _ _).trans (teq (by decide : (0 : Int32) = (0 : Int32))).1) (by decide) (by decide) k)
          show Gl _ _ _ _ (s₁.setTop (mkF m 250 #[.val (.ref a), .val (.int i), .val (.int to), .val (.int ((B i) &&& (255 : Int32))), .val (.int (0 : Int32)), .val (.int (128 : Int32)), .val (.int (191 : Int32)), .val (.int (0 : Int32)), .val (.int (2 : Int32))] []))
          refine Gl.go ?_ (fun t k => XS.iconst X0.here hx rfl (hb hby d1_250) k)
          show Gl _ _ _ _ (s₁.setTop (mkF m 251 #[.val (.ref a), .val (.int i), .val (.int to), .val (.int ((B i) &&& (255 : Int32))), .val (.int (0 : Int32)), .val (.int (128 : Int32)), .val (.int (191 : Int32)), .val (.int (0 : Int32)), .val (.int (2 : Int32))] [(.int (-1 : Int32))]))
          obtain ⟨fs, hr, hrun, hended, hW, hsame⟩ := X0.leave (v := some (.int (-1 : Int32))) (fun h => by rw [Bd.returns] at h; cases h) (BodyLoose.notSynchronized Bd)
          exact Gl.mk ⟨_, _, retI X0 hx Bd.returns (hb hby d1_251) hr, hrun, hended, _, _, rfl, ⟨congrArg (fun z => some (Value.int z)) ((if_neg hc30).trans ((if_pos hc31).trans ((if_pos hc32).trans ((if_pos hc33).trans (rfl))))).symm, rfl, e0⟩, ⟨_, rfl⟩, hW, hsame.mono (by decide) (by decide)⟩
        · refine Gl.go ?_ (fun t k => XS.icmpNo X0.here hx rfl (hb hby d1_106) rfl (flt hc33).2.2.1 k)
          show Gl _ _ _ _ (s₁.setTop (mkF m 109 #[.val (.ref a), .val (.int i), .val (.int to), .val (.int ((B i) &&& (255 : Int32))), .val (.int (0 : Int32)), .val (.int (128 : Int32)), .val (.int (191 : Int32)), .unset, .unset] []))
          refine Gl.go ?_ (fun t k => XS.iconst X0.here hx rfl (hb hby d1_109) k)
          show Gl _ _ _ _ (s₁.setTop (mkF m 110 #[.val (.ref a), .val (.int i), .val (.int to), .val (.int ((B i) &&& (255 : Int32))), .val (.int (0 : Int32)), .val (.int (128 : Int32)), .val (.int (191 : Int32)), .unset, .unset] [(.int (4 : Int32))]))
          refine Gl.go ?_ (fun t k => XS.istore X0.here hx rfl (hb hby d1_110) rfl (l' := #[.val (.ref a), .val (.int i), .val (.int to), .val (.int ((B i) &&& (255 : Int32))), .val (.int (4 : Int32)), .val (.int (128 : Int32)), .val (.int (191 : Int32)), .unset, .unset]) rfl k)
          show Gl _ _ _ _ (s₁.setTop (mkF m 112 #[.val (.ref a), .val (.int i), .val (.int to), .val (.int ((B i) &&& (255 : Int32))), .val (.int (4 : Int32)), .val (.int (128 : Int32)), .val (.int (191 : Int32)), .unset, .unset] []))
          refine Gl.go ?_ (fun t k => XS.iloadN X0.here hx rfl (hb hby d1_112) rfl k)
          show Gl _ _ _ _ (s₁.setTop (mkF m 113 #[.val (.ref a), .val (.int i), .val (.int to), .val (.int ((B i) &&& (255 : Int32))), .val (.int (4 : Int32)), .val (.int (128 : Int32)), .val (.int (191 : Int32)), .unset, .unset] [(.int ((B i) &&& (255 : Int32)))]))
          refine Gl.go ?_ (fun t k => XS.sipush X0.here hx rfl (hb hby d1_113) k)
          show Gl _ _ _ _ (s₁.setTop (mkF m 116 #[.val (.ref a), .val (.int i), .val (.int to), .val (.int ((B i) &&& (255 : Int32))), .val (.int (4 : Int32)), .val (.int (128 : Int32)), .val (.int (191 : Int32)), .unset, .unset] [(.int (240 : Int32)), (.int ((B i) &&& (255 : Int32)))]))
          by_cases hc34 : ((B i) &&& (255 : Int32)) = (240 : Int32)
          · refine Gl.go ?_ (fun t k => XS.icmpNo X0.here hx rfl (hb hby d1_116) rfl (teq hc34).2 k)
            show Gl _ _ _ _ (s₁.setTop (mkF m 119 #[.val (.ref a), .val (.int i), .val (.int to), .val (.int ((B i) &&& (255 : Int32))), .val (.int (4 : Int32)), .val (.int (128 : Int32)), .val (.int (191 : Int32)), .unset, .unset] []))
            refine Gl.go ?_ (fun t k => XS.sipush X0.here hx rfl (hb hby d1_119) k)
            show Gl _ _ _ _ (s₁.setTop (mkF m 122 #[.val (.ref a), .val (.int i), .val (.int to), .val (.int ((B i) &&& (255 : Int32))), .val (.int (4 : Int32)), .val (.int (128 : Int32)), .val (.int (191 : Int32)), .unset, .unset] [(.int (144 : Int32))]))
            refine Gl.go ?_ (fun t k => XS.goto X0.here hx rfl (pc0 := 122) (pc' := 127) rfl (hb hby d1_122) (by decide) (by decide) k)
            show Gl _ _ _ _ (s₁.setTop (mkF m 127 #[.val (.ref a), .val (.int i), .val (.int to), .val (.int ((B i) &&& (255 : Int32))), .val (.int (4 : Int32)), .val (.int (128 : Int32)), .val (.int (191 : Int32)), .unset, .unset] [(.int (144 : Int32))]))
            refine Gl.go ?_ (fun t k => XS.istore X0.here hx rfl (hb hby d1_127) rfl (l' := #[.val (.ref a), .val (.int i), .val (.int to), .val (.int ((B i) &&& (255 : Int32))), .val (.int (4 : Int32)), .val (.int (144 : Int32)), .val (.int (191 : Int32)), .unset, .unset]) rfl k)
            show Gl _ _ _ _ (s₁.setTop (mkF m 129 #[.val (.ref a), .val (.int i), .val (.int to), .val (.int ((B i) &&& (255 : Int32))), .val (.int (4 : Int32)), .val (.int (144 : Int32)), .val (.int (191 : Int32)), .unset, .unset] []))
            refine Gl.go ?_ (fun t k => XS.iloadN X0.here hx rfl (hb hby d1_129) rfl k)
            show Gl _ _ _ _ (s₁.setTop (mkF m 130 #[.val (.ref a), .val (.int i), .val (.int to), .val (.int ((B i) &&& (255 : Int32))), .val (.int (4 : Int32)), .val (.int (144 : Int32)), .val (.int (191 : Int32)), .unset, .unset] [(.int ((B i) &&& (255 : Int32)))]))
            refine Gl.go ?_ (fun t k => XS.sipush X0.here hx rfl (hb hby d1_130) k)
            show Gl _ _ _ _ (s₁.setTop (mkF m 133 #[.val (.ref a), .val (.int i), .val (.int to), .val (.int ((B i) &&& (255 : Int32))), .val (.int (4 : Int32)), .val (.int (144 : Int32)), .val (.int (191 : Int32)), .unset, .unset] [(.int (244 : Int32)), (.int ((B i) &&& (255 : Int32)))]))
            refine Gl.go ?_ (fun t k => XS.icmpYes X0.here hx rfl (pc0 := 133) (pc' := 142) rfl (hb hby d1_133) rfl (feq (iv_neq' (k := 244) rfl (by have q0 := iv_nlt (k := 194) rfl hc30; have q1 := iv_gt (k := 223) rfl hc31; have q2 := iv_gt (k := 239) rfl hc32; have q3 := iv_ngt (k := 244) rfl hc33; have q4 := iv_eq (k := 240) rfl hc34; omega) : ¬ (((B i) &&& (255 : Int32)) = (244 : Int32)))).2 (by decide) (by decide) k)
            show Gl _ _ _ _ (s₁.setTop (mkF m 142 #[.val (.ref a), .val (.int i), .val (.int to), .val (.int ((B i) &&& (255 : Int32))), .val (.int (4 : Int32)), .val (.int (144 : Int32)), .val (.int (191 : Int32)), .unset, .unset] []))
            refine Gl.go ?_ (fun t k => XS.iload X0.here hx rfl (hb hby d1_142) rfl k)
            show Gl _ _ _ _ (s₁.setTop (mkF m 144 #[.val (.ref a), .val (.int i), .val (.int to), .val (.int ((B i) &&& (255 : Int32))), .val (.int (4 : Int32)), .val (.int (144 : Int32)), .val (.int (191 : Int32)), .unset, .unset] [(.int (191 : Int32))]))
            refine Gl.go ?_ (fun t k => XS.istore X0.here hx rfl (hb hby d1_144) rfl (l' := #[.val (.ref a), .val (.int i), .val (.int to), .val (.int ((B i) &&& (255 : Int32))), .val (.int (4 : Int32)), .val (.int (144 : Int32)), .val (.int (191 : Int32)), .unset, .unset]) rfl k)
            show Gl _ _ _ _ (s₁.setTop (mkF m 146 #[.val (.ref a), .val (.int i), .val (.int to), .val (.int ((B i) &&& (255 : Int32))), .val (.int (4 : Int32)), .val (.int (144 : Int32)), .val (.int (191 : Int32)), .unset, .unset] []))
            refine Gl.go ?_ (fun t k => XS.iload X0.here hx rfl (hb hby d1_146) rfl k)
            show Gl _ _ _ _ (s₁.setTop (mkF m 148 #[.val (.ref a), .val (.int i), .val (.int to), .val (.int ((B i) &&& (255 : Int32))), .val (.int (4 : Int32)), .val (.int (144 : Int32)), .val (.int (191 : Int32)), .unset, .unset] [(.int (4 : Int32))]))
            refine Gl.go ?_ (fun t k => XS.ifNo X0.here hx rfl (hb hby d1_148) rfl ((if0 _ _).trans (tlt (by decide : (0 : Int32) < (4 : Int32))).2.2.2) k)
            show Gl _ _ _ _ (s₁.setTop (mkF m 151 #[.val (.ref a), .val (.int i), .val (.int to), .val (.int ((B i) &&& (255 : Int32))), .val (.int (4 : Int32)), .val (.int (144 : Int32)), .val (.int (191 : Int32)), .unset, .unset] []))
            refine Gl.go ?_ (fun t k => XS.iloadN X0.here hx rfl (hb hby d1_151) rfl k)
            show Gl _ _ _ _ (s₁.setTop (mkF m 152 #[.val (.ref a), .val (.int i), .val (.int to), .val (.int ((B i) &&& (255 : Int32))), .val (.int (4 : Int32)), .val (.int (144 : Int32)), .val (.int (191 : Int32)), .unset, .unset] [(.int to)]))
            refine Gl.go ?_ (fun t k => XS.iloadN X0.here hx rfl (hb hby d1_152) rfl k)
            show Gl _ _ _ _ (s₁.setTop (mkF m 153 #[.val (.ref a), .val (.int i), .val (.int to), .val (.int ((B i) &&& (255 : Int32))), .val (.int (4 : Int32)), .val (.int (144 : Int32)), .val (.int (191 : Int32)), .unset, .unset] [(.int i), (.int to)]))
            refine Gl.go ?_ (fun t k => XS.isub X0.here hx rfl (hb hby d1_153) rfl k)
            show Gl _ _ _ _ (s₁.setTop (mkF m 154 #[.val (.ref a), .val (.int i), .val (.int to), .val (.int ((B i) &&& (255 : Int32))), .val (.int (4 : Int32)), .val (.int (144 : Int32)), .val (.int (191 : Int32)), .unset, .unset] [(.int (to - i))]))
            refine Gl.go ?_ (fun t k => XS.iload X0.here hx rfl (hb hby d1_154) rfl k)
            show Gl _ _ _ _ (s₁.setTop (mkF m 156 #[.val (.ref a), .val (.int i), .val (.int to), .val (.int ((B i) &&& (255 : Int32))), .val (.int (4 : Int32)), .val (.int (144 : Int32)), .val (.int (191 : Int32)), .unset, .unset] [(.int (4 : Int32)), (.int (to - i))]))
            by_cases hc35 : (to - i) < (4 : Int32)
            · refine Gl.go ?_ (fun t k => XS.icmpYes X0.here hx rfl (pc0 := 156) (pc' := 191) rfl (hb hby d1_156) rfl (tlt hc35).1 (by decide) (by decide) k)
              show Gl _ _ _ _ (s₁.setTop (mkF m 191 #[.val (.ref a), .val (.int i), .val (.int to), .val (.int ((B i) &&& (255 : Int32))), .val (.int (4 : Int32)), .val (.int (144 : Int32)), .val (.int (191 : Int32)), .unset, .unset] []))
              refine Gl.go ?_ (fun t k => XS.iconst X0.here hx rfl (hb hby d1_191) k)
              show Gl _ _ _ _ (s₁.setTop (mkF m 192 #[.val (.ref a), .val (.int i), .val (.int to), .val (.int ((B i) &&& (255 : Int32))), .val (.int (4 : Int32)), .val (.int (144 : Int32)), .val (.int (191 : Int32)), .unset, .unset] [(.int (0 : Int32))]))
              refine Gl.go ?_ (fun t k => XS.istore X0.here hx rfl (hb hby d1_192) rfl (l' := #[.val (.ref a), .val (.int i), .val (.int to), .val (.int ((B i) &&& (255 : Int32))), .val (.int (4 : Int32)), .val (.int (144 : Int32)), .val (.int (191 : Int32)), .val (.int (0 : Int32)), .unset]) rfl k)
              show Gl _ _ _ _ (s₁.setTop (mkF m 194 #[.val (.ref a), .val (.int i), .val (.int to), .val (.int ((B i) &&& (255 : Int32))), .val (.int (4 : Int32)), .val (.int (144 : Int32)), .val (.int (191 : Int32)), .val (.int (0 : Int32)), .unset] []))
              refine Gl.go ?_ (fun t k => XS.iconst X0.here hx rfl (hb hby d1_194) k)
              show Gl _ _ _ _ (s₁.setTop (mkF m 195 #[.val (.ref a), .val (.int i), .val (.int to), .val (.int ((B i) &&& (255 : Int32))), .val (.int (4 : Int32)), .val (.int (144 : Int32)), .val (.int (191 : Int32)), .val (.int (0 : Int32)), .unset] [(.int (2 : Int32))]))
              refine Gl.go ?_ (fun t k => XS.istore X0.here hx rfl (hb hby d1_195) rfl (l' := #[.val (.ref a), .val (.int i), .val (.int to), .val (.int ((B i) &&& (255 : Int32))), .val (.int (4 : Int32)), .val (.int (144 : Int32)), .val (.int (191 : Int32)), .val (.int (0 : Int32)), .val (.int (2 : Int32))]) rfl k)
              show Gl _ _ _ _ (s₁.setTop (mkF m 197 #[.val (.ref a), .val (.int i), .val (.int to), .val (.int ((B i) &&& (255 : Int32))), .val (.int (4 : Int32)), .val (.int (144 : Int32)), .val (.int (191 : Int32)), .val (.int (0 : Int32)), .val (.int (2 : Int32))] []))
              refine Gl.go ?_ (fun t k => XS.iload X0.here hx rfl (hb hby d1_197) rfl k)
              show Gl _ _ _ _ (s₁.setTop (mkF m 199 #[.val (.ref a), .val (.int i), .val (.int to), .val (.int ((B i) &&& (255 : Int32))), .val (.int (4 : Int32)), .val (.int (144 : Int32)), .val (.int (191 : Int32)), .val (.int (0 : Int32)), .val (.int (2 : Int32))] [(.int (0 : Int32))]))
              refine Gl.go ?_ (fun t k => XS.ifYes X0.here hx rfl (pc0 := 199) (pc' := 238) rfl (hb hby d1_199) rfl ((if0 _ _).trans (teq (by decide : (0 : Int32) = (0 : Int32))).1) (by decide) (by decide) k)
              show Gl _ _ _ _ (s₁.setTop (mkF m 238 #[.val (.ref a), .val (.int i), .val (.int to), .val (.int ((B i) &&& (255 : Int32))), .val (.int (4 : Int32)), .val (.int (144 : Int32)), .val (.int (191 : Int32)), .val (.int (0 : Int32)), .val (.int (2 : Int32))] []))
              refine Gl.go ?_ (fun t k => XS.iload X0.here hx rfl (hb hby d1_238) rfl k)
              show Gl _ _ _ _ (s₁.setTop (mkF m 240 #[.val (.ref a), .val (.int i), .val (.int to), .val (.int ((B i) &&& (255 : Int32))), .val (.int (4 : Int32)), .val (.int (144 : Int32)), .val (.int (191 : Int32)), .val (.int (0 : Int32)), .val (.int (2 : Int32))] [(.int (0 : Int32))]))
              refine Gl.go ?_ (fun t k => XS.ifYes X0.here hx rfl (pc0 := 240) (pc' := 250) rfl (hb hby d1_240) rfl ((if0 _ _).trans (teq (by decide : (0 : Int32) = (0 : Int32))).1) (by decide) (by decide) k)
              show Gl _ _ _ _ (s₁.setTop (mkF m 250 #[.val (.ref a), .val (.int i), .val (.int to), .val (.int ((B i) &&& (255 : Int32))), .val (.int (4 : Int32)), .val (.int (144 : Int32)), .val (.int (191 : Int32)), .val (.int (0 : Int32)), .val (.int (2 : Int32))] []))
              refine Gl.go ?_ (fun t k => XS.iconst X0.here hx rfl (hb hby d1_250) k)
              show Gl _ _ _ _ (s₁.setTop (mkF m 251 #[.val (.ref a), .val (.int i), .val (.int to), .val (.int ((B i) &&& (255 : Int32))), .val (.int (4 : Int32)), .val (.int (144 : Int32)), .val (.int (191 : Int32)), .val (.int (0 : Int32)), .val (.int (2 : Int32))] [(.int (-1 : Int32))]))
              obtain ⟨fs, hr, hrun, hended, hW, hsame⟩ := X0.leave (v := some (.int (-1 : Int32))) (fun h => by rw [Bd.returns] at h; cases h) (BodyLoose.notSynchronized Bd)
              exact Gl.mk ⟨_, _, retI X0 hx Bd.returns (hb hby d1_251) hr, hrun, hended, _, _, rfl, ⟨congrArg (fun z => some (Value.int z)) ((if_neg hc30).trans ((if_pos hc31).trans ((if_pos hc32).trans ((if_neg hc33).trans ((if_pos hc34).trans ((if_pos hc35).trans (rfl))))))).symm, rfl, e0⟩, ⟨_, rfl⟩, hW, hsame.mono (by decide) (by decide)⟩
            · refine Gl.go ?_ (fun t k => XS.icmpNo X0.here hx rfl (hb hby d1_156) rfl (flt hc35).1 k)
              show Gl _ _ _ _ (s₁.setTop (mkF m 159 #[.val (.ref a), .val (.int i), .val (.int to), .val (.int ((B i) &&& (255 : Int32))), .val (.int (4 : Int32)), .val (.int (144 : Int32)), .val (.int (191 : Int32)), .unset, .unset] []))
              refine Gl.go ?_ (fun t k => XS.aloadN X0.here hx rfl (hb hby d1_159) rfl rfl k)
              show Gl _ _ _ _ (s₁.setTop (mkF m 160 #[.val (.ref a), .val (.int i), .val (.int to), .val (.int ((B i) &&& (255 : Int32))), .val (.int (4 : Int32)), .val (.int (144 : Int32)), .val (.int (191 : Int32)), .unset, .unset] [(.ref a)]))
              refine Gl.go ?_ (fun t k => XS.iloadN X0.here hx rfl (hb hby d1_160) rfl k)
              show Gl _ _ _ _ (s₁.setTop (mkF m 161 #[.val (.ref a), .val (.int i), .val (.int to), .val (.int ((B i) &&& (255 : Int32))), .val (.int (4 : Int32)), .val (.int (144 : Int32)), .val (.int (191 : Int32)), .unset, .unset] [(.int i), (.ref a)]))
              refine Gl.go ?_ (fun t k => XS.iconst X0.here hx rfl (hb hby d1_161) k)
              show Gl _ _ _ _ (s₁.setTop (mkF m 162 #[.val (.ref a), .val (.int i), .val (.int to), .val (.int ((B i) &&& (255 : Int32))), .val (.int (4 : Int32)), .val (.int (144 : Int32)), .val (.int (191 : Int32)), .unset, .unset] [(.int (1 : Int32)), (.int i), (.ref a)]))
              refine Gl.go ?_ (fun t k => XS.iadd X0.here hx rfl (hb hby d1_162) rfl k)
              show Gl _ _ _ _ (s₁.setTop (mkF m 163 #[.val (.ref a), .val (.int i), .val (.int to), .val (.int ((B i) &&& (255 : Int32))), .val (.int (4 : Int32)), .val (.int (144 : Int32)), .val (.int (191 : Int32)), .unset, .unset] [(.int (i + (1 : Int32))), (.ref a)]))
              refine Gl.go ?_ (BA.rdB hB X0 hx hZ e0 hi1.1 hi1.2 (g := (mkF m 163 #[.val (.ref a), .val (.int i), .val (.int to), .val (.int ((B i) &&& (255 : Int32))), .val (.int (4 : Int32)), .val (.int (144 : Int32)), .val (.int (191 : Int32)), .unset, .unset] [(.int (i + (1 : Int32))), (.ref a)])) rfl rfl (hb hby d1_163))
              show Gl _ _ _ _ (s₁.setTop (mkF m 164 #[.val (.ref a), .val (.int i), .val (.int to), .val (.int ((B i) &&& (255 : Int32))), .val (.int (4 : Int32)), .val (.int (144 : Int32)), .val (.int (191 : Int32)), .unset, .unset] [(.int (B (i + (1 : Int32))))]))
              refine Gl.go ?_ (fun t k => XS.sipush X0.here hx rfl (hb hby d1_164) k)
              show Gl _ _ _ _ (s₁.setTop (mkF m 167 #[.val (.ref a), .val (.int i), .val (.int to), .val (.int ((B i) &&& (255 : Int32))), .val (.int (4 : Int32)), .val (.int (144 : Int32)), .val (.int (191 : Int32)), .unset, .unset] [(.int (255 : Int32)), (.int (B (i + (1 : Int32))))]))
              refine Gl.go ?_ (fun t k => XS.iand X0.here hx rfl (hb hby d1_167) rfl k)
              show Gl _ _ _ _ (s₁.setTop (mkF m 168 #[.val (.ref a), .val (.int i), .val (.int to), .val (.int ((B i) &&& (255 : Int32))), .val (.int (4 : Int32)), .val (.int (144 : Int32)), .val (.int (191 : Int32)), .unset, .unset] [(.int ((B (i + (1 : Int32))) &&& (255 : Int32)))]))
              refine Gl.go ?_ (fun t k => XS.iload X0.here hx rfl (hb hby d1_168) rfl k)
              show Gl _ _ _ _ (s₁.setTop (mkF m 170 #[.val (.ref a), .val (.int i), .val (.int to), .val (.int ((B i) &&& (255 : Int32))), .val (.int (4 : Int32)), .val (.int (144 : Int32)), .val (.int (191 : Int32)), .unset, .unset] [(.int (144 : Int32)), (.int ((B (i + (1 : Int32))) &&& (255 : Int32)))]))
              by_cases hc36 : ((B (i + (1 : Int32))) &&& (255 : Int32)) < (144 : Int32)
              · refine Gl.go ?_ (fun t k => XS.icmpYes X0.here hx rfl (pc0 := 170) (pc' := 191) rfl (hb hby d1_170) rfl (tlt hc36).1 (by decide) (by decide) k)
                show Gl _ _ _ _ (s₁.setTop (mkF m 191 #[.val (.ref a), .val (.int i), .val (.int to), .val (.int ((B i) &&& (255 : Int32))), .val (.int (4 : Int32)), .val (.int (144 : Int32)), .val (.int (191 : Int32)), .unset, .unset] []))
                refine Gl.go ?_ (fun t k => XS.iconst X0.here hx rfl (hb hby d1_191) k)
                show Gl _ _ _ _ (s₁.setTop (mkF m 192 #[.val (.ref a), .val (.int i), .val (.int to), .val (.int ((B i) &&& (255 : Int32))), .val (.int (4 : Int32)), .val (.int (144 : Int32)), .val (.int (191 : Int32)), .unset, .unset] [(.int (0 : Int32))]))
                refine Gl.go ?_ (fun t k => XS.istore X0.here hx rfl (hb hby d1_192) rfl (l' := #[.val (.ref a), .val (.int i), .val (.int to), .val (.int ((B i) &&& (255 : Int32))), .val (.int (4 : Int32)), .val (.int (144 : Int32)), .val (.int (191 : Int32)), .val (.int (0 : Int32)), .unset]) rfl k)
                show Gl _ _ _ _ (s₁.setTop (mkF m 194 #[.val (.ref a), .val (.int i), .val (.int to), .val (.int ((B i) &&& (255 : Int32))), .val (.int (4 : Int32)), .val (.int (144 : Int32)), .val (.int (191 : Int32)), .val (.int (0 : Int32)), .unset] []))
                refine Gl.go ?_ (fun t k => XS.iconst X0.here hx rfl (hb hby d1_194) k)
                show Gl _ _ _ _ (s₁.setTop (mkF m 195 #[.val (.ref a), .val (.int i), .val (.int to), .val (.int ((B i) &&& (255 : Int32))), .val (.int (4 : Int32)), .val (.int (144 : Int32)), .val (.int (191 : Int32)), .val (.int (0 : Int32)), .unset] [(.int (2 : Int32))]))
                refine Gl.go ?_ (fun t k => XS.istore X0.here hx rfl (hb hby d1_195) rfl (l' := #[.val (.ref a), .val (.int i), .val (.int to), .val (.int ((B i) &&& (255 : Int32))), .val (.int (4 : Int32)), .val (.int (144 : Int32)), .val (.int (191 : Int32)), .val (.int (0 : Int32)), .val (.int (2 : Int32))]) rfl k)
                show Gl _ _ _ _ (s₁.setTop (mkF m 197 #[.val (.ref a), .val (.int i), .val (.int to), .val (.int ((B i) &&& (255 : Int32))), .val (.int (4 : Int32)), .val (.int (144 : Int32)), .val (.int (191 : Int32)), .val (.int (0 : Int32)), .val (.int (2 : Int32))] []))
                refine Gl.go ?_ (fun t k => XS.iload X0.here hx rfl (hb hby d1_197) rfl k)
                show Gl _ _ _ _ (s₁.setTop (mkF m 199 #[.val (.ref a), .val (.int i), .val (.int to), .val (.int ((B i) &&& (255 : Int32))), .val (.int (4 : Int32)), .val (.int (144 : Int32)), .val (.int (191 : Int32)), .val (.int (0 : Int32)), .val (.int (2 : Int32))] [(.int (0 : Int32))]))
                refine Gl.go ?_ (fun t k => XS.ifYes X0.here hx rfl (pc0 := 199) (pc' := 238) rfl (hb hby d1_199) rfl ((if0 _ _).trans (teq (by decide : (0 : Int32) = (0 : Int32))).1) (by decide) (by decide) k)
                show Gl _ _ _ _ (s₁.setTop (mkF m 238 #[.val (.ref a), .val (.int i), .val (.int to), .val (.int ((B i) &&& (255 : Int32))), .val (.int (4 : Int32)), .val (.int (144 : Int32)), .val (.int (191 : Int32)), .val (.int (0 : Int32)), .val (.int (2 : Int32))] []))
                refine Gl.go ?_ (fun t k => XS.iload X0.here hx rfl (hb hby d1_238) rfl k)
                show Gl _ _ _ _ (s₁.setTop (mkF m 240 #[.val (.ref a), .val (.int i), .val (.int to), .val (.int ((B i) &&& (255 : Int32))), .val (.int (4 : Int32)), .val (.int (144 : Int32)), .val (.int (191 : Int32)), .val (.int (0 : Int32)), .val (.int (2 : Int32))] [(.int (0 : Int32))]))
                refine Gl.go ?_ (fun t k => XS.ifYes X0.here hx rfl (pc0 := 240) (pc' := 250) rfl (hb hby d1_240) rfl ((if0 _ _).trans (teq (by decide : (0 : Int32) = (0 : Int32))).1) (by decide) (by decide) k)
                show Gl _ _ _ _ (s₁.setTop (mkF m 250 #[.val (.ref a), .val (.int i), .val (.int to), .val (.int ((B i) &&& (255 : Int32))), .val (.int (4 : Int32)), .val (.int (144 : Int32)), .val (.int (191 : Int32)), .val (.int (0 : Int32)), .val (.int (2 : Int32))] []))
                refine Gl.go ?_ (fun t k => XS.iconst X0.here hx rfl (hb hby d1_250) k)
                show Gl _ _ _ _ (s₁.setTop (mkF m 251 #[.val (.ref a), .val (.int i), .val (.int to), .val (.int ((B i) &&& (255 : Int32))), .val (.int (4 : Int32)), .val (.int (144 : Int32)), .val (.int (191 : Int32)), .val (.int (0 : Int32)), .val (.int (2 : Int32))] [(.int (-1 : Int32))]))
                obtain ⟨fs, hr, hrun, hended, hW, hsame⟩ := X0.leave (v := some (.int (-1 : Int32))) (fun h => by rw [Bd.returns] at h; cases h) (BodyLoose.notSynchronized Bd)
                exact Gl.mk ⟨_, _, retI X0 hx Bd.returns (hb hby d1_251) hr, hrun, hended, _, _, rfl, ⟨congrArg (fun z => some (Value.int z)) ((if_neg hc30).trans ((if_pos hc31).trans ((if_pos hc32).trans ((if_neg hc33).trans ((if_pos hc34).trans ((if_neg hc35).trans ((if_pos hc36).trans (rfl)))))))).symm, rfl, e0⟩, ⟨_, rfl⟩, hW, hsame.mono (by decide) (by decide)⟩
              · refine Gl.go ?_ (fun t k => XS.icmpNo X0.here hx rfl (hb hby d1_170) rfl (flt hc36).1 k)
                show Gl _ _ _ _ (s₁.setTop (mkF m 173 #[.val (.ref a), .val (.int i), .val (.int to), .val (.int ((B i) &&& (255 : Int32))), .val (.int (4 : Int32)), .val (.int (144 : Int32)), .val (.int (191 : Int32)), .unset, .unset] []))
                refine Gl.go ?_ (fun t k => XS.aloadN X0.here hx rfl (hb hby d1_173) rfl rfl k)
                show Gl _ _ _ _ (s₁.setTop (mkF m 174 #[.val (.ref a), .val (.int i), .val (.int to), .val (.int ((B i) &&& (255 : Int32))), .val (.int (4 : Int32)), .val (.int (144 : Int32)), .val (.int (191 : Int32)), .unset, .unset] [(.ref a)]))
                refine Gl.go ?_ (fun t k => XS.iloadN X0.here hx rfl (hb hby d1_174) rfl k)
                show Gl _ _ _ _ (s₁.setTop (mkF m 175 #[.val (.ref a), .val (.int i), .val (.int to), .val (.int ((B i) &&& (255 : Int32))), .val (.int (4 : Int32)), .val (.int (144 : Int32)), .val (.int (191 : Int32)), .unset, .unset] [(.int i), (.ref a)]))
                refine Gl.go ?_ (fun t k => XS.iconst X0.here hx rfl (hb hby d1_175) k)
                show Gl _ _ _ _ (s₁.setTop (mkF m 176 #[.val (.ref a), .val (.int i), .val (.int to), .val (.int ((B i) &&& (255 : Int32))), .val (.int (4 : Int32)), .val (.int (144 : Int32)), .val (.int (191 : Int32)), .unset, .unset] [(.int (1 : Int32)), (.int i), (.ref a)]))
                refine Gl.go ?_ (fun t k => XS.iadd X0.here hx rfl (hb hby d1_176) rfl k)
                show Gl _ _ _ _ (s₁.setTop (mkF m 177 #[.val (.ref a), .val (.int i), .val (.int to), .val (.int ((B i) &&& (255 : Int32))), .val (.int (4 : Int32)), .val (.int (144 : Int32)), .val (.int (191 : Int32)), .unset, .unset] [(.int (i + (1 : Int32))), (.ref a)]))
                refine Gl.go ?_ (BA.rdB hB X0 hx hZ e0 hi1.1 hi1.2 (g := (mkF m 177 #[.val (.ref a), .val (.int i), .val (.int to), .val (.int ((B i) &&& (255 : Int32))), .val (.int (4 : Int32)), .val (.int (144 : Int32)), .val (.int (191 : Int32)), .unset, .unset] [(.int (i + (1 : Int32))), (.ref a)])) rfl rfl (hb hby d1_177))
                show Gl _ _ _ _ (s₁.setTop (mkF m 178 #[.val (.ref a), .val (.int i), .val (.int to), .val (.int ((B i) &&& (255 : Int32))), .val (.int (4 : Int32)), .val (.int (144 : Int32)), .val (.int (191 : Int32)), .unset, .unset] [(.int (B (i + (1 : Int32))))]))
                refine Gl.go ?_ (fun t k => XS.sipush X0.here hx rfl (hb hby d1_178) k)
                show Gl _ _ _ _ (s₁.setTop (mkF m 181 #[.val (.ref a), .val (.int i), .val (.int to), .val (.int ((B i) &&& (255 : Int32))), .val (.int (4 : Int32)), .val (.int (144 : Int32)), .val (.int (191 : Int32)), .unset, .unset] [(.int (255 : Int32)), (.int (B (i + (1 : Int32))))]))
                refine Gl.go ?_ (fun t k => XS.iand X0.here hx rfl (hb hby d1_181) rfl k)
                show Gl _ _ _ _ (s₁.setTop (mkF m 182 #[.val (.ref a), .val (.int i), .val (.int to), .val (.int ((B i) &&& (255 : Int32))), .val (.int (4 : Int32)), .val (.int (144 : Int32)), .val (.int (191 : Int32)), .unset, .unset] [(.int ((B (i + (1 : Int32))) &&& (255 : Int32)))]))
                refine Gl.go ?_ (fun t k => XS.iload X0.here hx rfl (hb hby d1_182) rfl k)
                show Gl _ _ _ _ (s₁.setTop (mkF m 184 #[.val (.ref a), .val (.int i), .val (.int to), .val (.int ((B i) &&& (255 : Int32))), .val (.int (4 : Int32)), .val (.int (144 : Int32)), .val (.int (191 : Int32)), .unset, .unset] [(.int (191 : Int32)), (.int ((B (i + (1 : Int32))) &&& (255 : Int32)))]))
                by_cases hc37 : (191 : Int32) < ((B (i + (1 : Int32))) &&& (255 : Int32))
                · refine Gl.go ?_ (fun t k => XS.icmpYes X0.here hx rfl (pc0 := 184) (pc' := 191) rfl (hb hby d1_184) rfl (tlt hc37).2.2.1 (by decide) (by decide) k)
                  show Gl _ _ _ _ (s₁.setTop (mkF m 191 #[.val (.ref a), .val (.int i), .val (.int to), .val (.int ((B i) &&& (255 : Int32))), .val (.int (4 : Int32)), .val (.int (144 : Int32)), .val (.int (191 : Int32)), .unset, .unset] []))
                  refine Gl.go ?_ (fun t k => XS.iconst X0.here hx rfl (hb hby d1_191) k)
                  show Gl _ _ _ _ (s₁.setTop (mkF m 192 #[.val (.ref a), .val (.int i), .val (.int to), .val (.int ((B i) &&& (255 : Int32))), .val (.int (4 : Int32)), .val (.int (144 : Int32)), .val (.int (191 : Int32)), .unset, .unset] [(.int (0 : Int32))]))
                  refine Gl.go ?_ (fun t k => XS.istore X0.here hx rfl (hb hby d1_192) rfl (l' := #[.val (.ref a), .val (.int i), .val (.int to), .val (.int ((B i) &&& (255 : Int32))), .val (.int (4 : Int32)), .val (.int (144 : Int32)), .val (.int (191 : Int32)), .val (.int (0 : Int32)), .unset]) rfl k)
                  show Gl _ _ _ _ (s₁.setTop (mkF m 194 #[.val (.ref a), .val (.int i), .val (.int to), .val (.int ((B i) &&& (255 : Int32))), .val (.int (4 : Int32)), .val (.int (144 : Int32)), .val (.int (191 : Int32)), .val (.int (0 : Int32)), .unset] []))
                  refine Gl.go ?_ (fun t k => XS.iconst X0.here hx rfl (hb hby d1_194) k)
                  show Gl _ _ _ _ (s₁.setTop (mkF m 195 #[.val (.ref a), .val (.int i), .val (.int to), .val (.int ((B i) &&& (255 : Int32))), .val (.int (4 : Int32)), .val (.int (144 : Int32)), .val (.int (191 : Int32)), .val (.int (0 : Int32)), .unset] [(.int (2 : Int32))]))
                  refine Gl.go ?_ (fun t k => XS.istore X0.here hx rfl (hb hby d1_195) rfl (l' := #[.val (.ref a), .val (.int i), .val (.int to), .val (.int ((B i) &&& (255 : Int32))), .val (.int (4 : Int32)), .val (.int (144 : Int32)), .val (.int (191 : Int32)), .val (.int (0 : Int32)), .val (.int (2 : Int32))]) rfl k)
                  show Gl _ _ _ _ (s₁.setTop (mkF m 197 #[.val (.ref a), .val (.int i), .val (.int to), .val (.int ((B i) &&& (255 : Int32))), .val (.int (4 : Int32)), .val (.int (144 : Int32)), .val (.int (191 : Int32)), .val (.int (0 : Int32)), .val (.int (2 : Int32))] []))
                  refine Gl.go ?_ (fun t k => XS.iload X0.here hx rfl (hb hby d1_197) rfl k)
                  show Gl _ _ _ _ (s₁.setTop (mkF m 199 #[.val (.ref a), .val (.int i), .val (.int to), .val (.int ((B i) &&& (255 : Int32))), .val (.int (4 : Int32)), .val (.int (144 : Int32)), .val (.int (191 : Int32)), .val (.int (0 : Int32)), .val (.int (2 : Int32))] [(.int (0 : Int32))]))
                  refine Gl.go ?_ (fun t k => XS.ifYes X0.here hx rfl (pc0 := 199) (pc' := 238) rfl (hb hby d1_199) rfl ((if0 _ _).trans (teq (by decide : (0 : Int32) = (0 : Int32))).1) (by decide) (by decide) k)
                  show Gl _ _ _ _ (s₁.setTop (mkF m 238 #[.val (.ref a), .val (.int i), .val (.int to), .val (.int ((B i) &&& (255 : Int32))), .val (.int (4 : Int32)), .val (.int (144 : Int32)), .val (.int (191 : Int32)), .val (.int (0 : Int32)), .val (.int (2 : Int32))] []))
                  refine Gl.go ?_ (fun t k => XS.iload X0.here hx rfl (hb hby d1_238) rfl k)
                  show Gl _ _ _ _ (s₁.setTop (mkF m 240 #[.val (.ref a), .val (.int i), .val (.int to), .val (.int ((B i) &&& (255 : Int32))), .val (.int (4 : Int32)), .val (.int (144 : Int32)), .val (.int (191 : Int32)), .val (.int (0 : Int32)), .val (.int (2 : Int32))] [(.int (0 : Int32))]))
                  refine Gl.go ?_ (fun t k => XS.ifYes X0.here hx rfl (pc0 := 240) (pc' := 250) rfl (hb hby d1_240) rfl ((if0 _ _).trans (teq (by decide : (0 : Int32) = (0 : Int32))).1) (by decide) (by decide) k)
                  show Gl _ _ _ _ (s₁.setTop (mkF m 250 #[.val (.ref a), .val (.int i), .val (.int to), .val (.int ((B i) &&& (255 : Int32))), .val (.int (4 : Int32)), .val (.int (144 : Int32)), .val (.int (191 : Int32)), .val (.int (0 : Int32)), .val (.int (2 : Int32))] []))
                  refine Gl.go ?_ (fun t k => XS.iconst X0.here hx rfl (hb hby d1_250) k)
                  show Gl _ _ _ _ (s₁.setTop (mkF m 251 #[.val (.ref a), .val (.int i), .val (.int to), .val (.int ((B i) &&& (255 : Int32))), .val (.int (4 : Int32)), .val (.int (144 : Int32)), .val (.int (191 : Int32)), .val (.int (0 : Int32)), .val (.int (2 : Int32))] [(.int (-1 : Int32))]))
                  obtain ⟨fs, hr, hrun, hended, hW, hsame⟩ := X0.leave (v := some (.int (-1 : Int32))) (fun h => by rw [Bd.returns] at h; cases h) (BodyLoose.notSynchronized Bd)
                  exact Gl.mk ⟨_, _, retI X0 hx Bd.returns (hb hby d1_251) hr, hrun, hended, _, _, rfl, ⟨congrArg (fun z => some (Value.int z)) ((if_neg hc30).trans ((if_pos hc31).trans ((if_pos hc32).trans ((if_neg hc33).trans ((if_pos hc34).trans ((if_neg hc35).trans ((if_neg hc36).trans ((if_pos hc37).trans (rfl))))))))).symm, rfl, e0⟩, ⟨_, rfl⟩, hW, hsame.mono (by decide) (by decide)⟩
                · refine Gl.go ?_ (fun t k => XS.icmpNo X0.here hx rfl (hb hby d1_184) rfl (flt hc37).2.2.1 k)
                  show Gl _ _ _ _ (s₁.setTop (mkF m 187 #[.val (.ref a), .val (.int i), .val (.int to), .val (.int ((B i) &&& (255 : Int32))), .val (.int (4 : Int32)), .val (.int (144 : Int32)), .val (.int (191 : Int32)), .unset, .unset] []))
                  refine Gl.go ?_ (fun t k => XS.iconst X0.here hx rfl (hb hby d1_187) k)
                  show Gl _ _ _ _ (s₁.setTop (mkF m 188 #[.val (.ref a), .val (.int i), .val (.int to), .val (.int ((B i) &&& (255 : Int32))), .val (.int (4 : Int32)), .val (.int (144 : Int32)), .val (.int (191 : Int32)), .unset, .unset] [(.int (1 : Int32))]))
                  refine Gl.go ?_ (fun t k => XS.goto X0.here hx rfl (pc0 := 188) (pc' := 192) rfl (hb hby d1_188) (by decide) (by decide) k)
                  show Gl _ _ _ _ (s₁.setTop (mkF m 192 #[.val (.ref a), .val (.int i), .val (.int to), .val (.int ((B i) &&& (255 : Int32))), .val (.int (4 : Int32)), .val (.int (144 : Int32)), .val (.int (191 : Int32)), .unset, .unset] [(.int (1 : Int32))]))
                  refine Gl.go ?_ (fun t k => XS.istore X0.here hx rfl (hb hby d1_192) rfl (l' := #[.val (.ref a), .val (.int i), .val (.int to), .val (.int ((B i) &&& (255 : Int32))), .val (.int (4 : Int32)), .val (.int (144 : Int32)), .val (.int (191 : Int32)), .val (.int (1 : Int32)), .unset]) rfl k)
                  show Gl _ _ _ _ (s₁.setTop (mkF m 194 #[.val (.ref a), .val (.int i), .val (.int to), .val (.int ((B i) &&& (255 : Int32))), .val (.int (4 : Int32)), .val (.int (144 : Int32)), .val (.int (191 : Int32)), .val (.int (1 : Int32)), .unset] []))
                  refine Gl.go ?_ (fun t k => XS.iconst X0.here hx rfl (hb hby d1_194) k)
                  show Gl _ _ _ _ (s₁.setTop (mkF m 195 #[.val (.ref a), .val (.int i), .val (.int to), .val (.int ((B i) &&& (255 : Int32))), .val (.int (4 : Int32)), .val (.int (144 : Int32)), .val (.int (191 : Int32)), .val (.int (1 : Int32)), .unset] [(.int (2 : Int32))]))
                  refine Gl.go ?_ (fun t k => XS.istore X0.here hx rfl (hb hby d1_195) rfl (l' := #[.val (.ref a), .val (.int i), .val (.int to), .val (.int ((B i) &&& (255 : Int32))), .val (.int (4 : Int32)), .val (.int (144 : Int32)), .val (.int (191 : Int32)), .val (.int (1 : Int32)), .val (.int (2 : Int32))]) rfl k)
                  show Gl _ _ _ _ (s₁.setTop (mkF m 197 #[.val (.ref a), .val (.int i), .val (.int to), .val (.int ((B i) &&& (255 : Int32))), .val (.int (4 : Int32)), .val (.int (144 : Int32)), .val (.int (191 : Int32)), .val (.int (1 : Int32)), .val (.int (2 : Int32))] []))
                  refine Gl.go ?_ (fun t k => XS.iload X0.here hx rfl (hb hby d1_197) rfl k)
                  show Gl _ _ _ _ (s₁.setTop (mkF m 199 #[.val (.ref a), .val (.int i), .val (.int to), .val (.int ((B i) &&& (255 : Int32))), .val (.int (4 : Int32)), .val (.int (144 : Int32)), .val (.int (191 : Int32)), .val (.int (1 : Int32)), .val (.int (2 : Int32))] [(.int (1 : Int32))]))
                  refine Gl.go ?_ (fun t k => XS.ifNo X0.here hx rfl (hb hby d1_199) rfl ((if0 _ _).trans (feq (by decide : ¬ ((1 : Int32) = (0 : Int32)))).1) k)
                  show Gl _ _ _ _ (s₁.setTop (mkF m 202 #[.val (.ref a), .val (.int i), .val (.int to), .val (.int ((B i) &&& (255 : Int32))), .val (.int (4 : Int32)), .val (.int (144 : Int32)), .val (.int (191 : Int32)), .val (.int (1 : Int32)), .val (.int (2 : Int32))] []))
                  refine Gl.go ?_ (fun t k => XS.iload X0.here hx rfl (hb hby d1_202) rfl k)
                  show Gl _ _ _ _ (s₁.setTop (mkF m 204 #[.val (.ref a), .val (.int i), .val (.int to), .val (.int ((B i) &&& (255 : Int32))), .val (.int (4 : Int32)), .val (.int (144 : Int32)), .val (.int (191 : Int32)), .val (.int (1 : Int32)), .val (.int (2 : Int32))] [(.int (2 : Int32))]))
                  refine Gl.go ?_ (fun t k => XS.iload X0.here hx rfl (hb hby d1_204) rfl k)
                  show Gl _ _ _ _ (s₁.setTop (mkF m 206 #[.val (.ref a), .val (.int i), .val (.int to), .val (.int ((B i) &&& (255 : Int32))), .val (.int (4 : Int32)), .val (.int (144 : Int32)), .val (.int (191 : Int32)), .val (.int (1 : Int32)), .val (.int (2 : Int32))] [(.int (4 : Int32)), (.int (2 : Int32))]))
                  refine Gl.go ?_ (fun t k => XS.icmpNo X0.here hx rfl (hb hby d1_206) rfl (tlt (by decide : (2 : Int32) < (4 : Int32))).2.1 k)
                  show Gl _ _ _ _ (s₁.setTop (mkF m 209 #[.val (.ref a), .val (.int i), .val (.int to), .val (.int ((B i) &&& (255 : Int32))), .val (.int (4 : Int32)), .val (.int (144 : Int32)), .val (.int (191 : Int32)), .val (.int (1 : Int32)), .val (.int (2 : Int32))] []))
                  refine Gl.go ?_ (fun t k => XS.aloadN X0.here hx rfl (hb hby d1_209) rfl rfl k)
                  show Gl _ _ _ _ (s₁.setTop (mkF m 210 #[.val (.ref a), .val (.int i), .val (.int to), .val (.int ((B i) &&& (255 : Int32))), .val (.int (4 : Int32)), .val (.int (144 : Int32)), .val (.int (191 : Int32)), .val (.int (1 : Int32)), .val (.int (2 : Int32))] [(.ref a)]))
                  refine Gl.go ?_ (fun t k => XS.iloadN X0.here hx rfl (hb hby d1_210) rfl k)
                  show Gl _ _ _ _ (s₁.setTop (mkF m 211 #[.val (.ref a), .val (.int i), .val (.int to), .val (.int ((B i) &&& (255 : Int32))), .val (.int (4 : Int32)), .val (.int (144 : Int32)), .val (.int (191 : Int32)), .val (.int (1 : Int32)), .val (.int (2 : Int32))] [(.int i), (.ref a)]))
                  refine Gl.go ?_ (fun t k => XS.iload X0.here hx rfl (hb hby d1_211) rfl k)
                  show Gl _ _ _ _ (s₁.setTop (mkF m 213 #[.val (.ref a), .val (.int i), .val (.int to), .val (.int ((B i) &&& (255 : Int32))), .val (.int (4 : Int32)), .val (.int (144 : Int32)), .val (.int (191 : Int32)), .val (.int (1 : Int32)), .val (.int (2 : Int32))] [(.int (2 : Int32)), (.int i), (.ref a)]))
                  refine Gl.go ?_ (fun t k => XS.iadd X0.here hx rfl (hb hby d1_213) rfl k)
                  show Gl _ _ _ _ (s₁.setTop (mkF m 214 #[.val (.ref a), .val (.int i), .val (.int to), .val (.int ((B i) &&& (255 : Int32))), .val (.int (4 : Int32)), .val (.int (144 : Int32)), .val (.int (191 : Int32)), .val (.int (1 : Int32)), .val (.int (2 : Int32))] [(.int (i + (2 : Int32))), (.ref a)]))
                  refine Gl.go ?_ (BA.rdB hB X0 hx hZ e0 hi2.1 hi2.2 (g := (mkF m 214 #[.val (.ref a), .val (.int i), .val (.int to), .val (.int ((B i) &&& (255 : Int32))), .val (.int (4 : Int32)), .val (.int (144 : Int32)), .val (.int (191 : Int32)), .val (.int (1 : Int32)), .val (.int (2 : Int32))] [(.int (i + (2 : Int32))), (.ref a)])) rfl rfl (hb hby d1_214))
                  show Gl _ _ _ _ (s₁.setTop (mkF m 215 #[.val (.ref a), .val (.int i), .val (.int to), .val (.int ((B i) &&& (255 : Int32))), .val (.int (4 : Int32)), .val (.int (144 : Int32)), .val (.int (191 : Int32)), .val (.int (1 : Int32)), .val (.int (2 : Int32))] [(.int (B (i + (2 : Int32))))]))
                  refine Gl.go ?_ (fun t k => XS.sipush X0.here hx rfl (hb hby d1_215) k)
                  show Gl _ _ _ _ (s₁.setTop (mkF m 218 #[.val (.ref a), .val (.int i), .val (.int to), .val (.int ((B i) &&& (255 : Int32))), .val (.int (4 : Int32)), .val (.int (144 : Int32)), .val (.int (191 : Int32)), .val (.int (1 : Int32)), .val (.int (2 : Int32))] [(.int (192 : Int32)), (.int (B (i + (2 : Int32))))]))
                  refine Gl.go ?_ (fun t k => XS.iand X0.here hx rfl (hb hby d1_218) rfl k)
                  show Gl _ _ _ _ (s₁.setTop (mkF m 219 #[.val (.ref a), .val (.int i), .val (.int to), .val (.int ((B i) &&& (255 : Int32))), .val (.int (4 : Int32)), .val (.int (144 : Int32)), .val (.int (191 : Int32)), .val (.int (1 : Int32)), .val (.int (2 : Int32))] [(.int ((B (i + (2 : Int32))) &&& (192 : Int32)))]))
                  refine Gl.go ?_ (fun t k => XS.sipush X0.here hx rfl (hb hby d1_219) k)
                  show Gl _ _ _ _ (s₁.setTop (mkF m 222 #[.val (.ref a), .val (.int i), .val (.int to), .val (.int ((B i) &&& (255 : Int32))), .val (.int (4 : Int32)), .val (.int (144 : Int32)), .val (.int (191 : Int32)), .val (.int (1 : Int32)), .val (.int (2 : Int32))] [(.int (128 : Int32)), (.int ((B (i + (2 : Int32))) &&& (192 : Int32)))]))
                  by_cases hc38 : ((B (i + (2 : Int32))) &&& (192 : Int32)) = (128 : Int32)
                  · refine Gl.go ?_ (fun t k => XS.icmpNo X0.here hx rfl (hb hby d1_222) rfl (teq hc38).2 k)
                    show Gl _ _ _ _ (s₁.setTop (mkF m 225 #[.val (.ref a), .val (.int i), .val (.int to), .val (.int ((B i) &&& (255 : Int32))), .val (.int (4 : Int32)), .val (.int (144 : Int32)), .val (.int (191 : Int32)), .val (.int (1 : Int32)), .val (.int (2 : Int32))] []))
                    refine Gl.go ?_ (fun t k => XS.iconst X0.here hx rfl (hb hby d1_225) k)
                    show Gl _ _ _ _ (s₁.setTop (mkF m 226 #[.val (.ref a), .val (.int i), .val (.int to), .val (.int ((B i) &&& (255 : Int32))), .val (.int (4 : Int32)), .val (.int (144 : Int32)), .val (.int (191 : Int32)), .val (.int (1 : Int32)), .val (.int (2 : Int32))] [(.int (1 : Int32))]))
                    refine Gl.go ?_ (fun t k => XS.goto X0.here hx rfl (pc0 := 226) (pc' := 230) rfl (hb hby d1_226) (by decide) (by decide) k)
                    show Gl _ _ _ _ (s₁.setTop (mkF m 230 #[.val (.ref a), .val (.int i), .val (.int to), .val (.int ((B i) &&& (255 : Int32))), .val (.int (4 : Int32)), .val (.int (144 : Int32)), .val (.int (191 : Int32)), .val (.int (1 : Int32)), .val (.int (2 : Int32))] [(.int (1 : Int32))]))
                    refine Gl.go ?_ (fun t k => XS.istore X0.here hx rfl (hb hby d1_230) rfl (l' := #[.val (.ref a), .val (.int i), .val (.int to), .val (.int ((B i) &&& (255 : Int32))), .val (.int (4 : Int32)), .val (.int (144 : Int32)), .val (.int (191 : Int32)), .val (.int (1 : Int32)), .val (.int (2 : Int32))]) rfl k)
                    show Gl _ _ _ _ (s₁.setTop (mkF m 232 #[.val (.ref a), .val (.int i), .val (.int to), .val (.int ((B i) &&& (255 : Int32))), .val (.int (4 : Int32)), .val (.int (144 : Int32)), .val (.int (191 : Int32)), .val (.int (1 : Int32)), .val (.int (2 : Int32))] []))
                    refine Gl.go ?_ (fun t k => XS.iinc X0.here hx rfl (hb hby d1_232) rfl (l' := #[.val (.ref a), .val (.int i), .val (.int to), .val (.int ((B i) &&& (255 : Int32))), .val (.int (4 : Int32)), .val (.int (144 : Int32)), .val (.int (191 : Int32)), .val (.int (1 : Int32)), .val (.int (3 : Int32))]) rfl k)
                    show Gl _ _ _ _ (s₁.setTop (mkF m 235 #[.val (.ref a), .val (.int i), .val (.int to), .val (.int ((B i) &&& (255 : Int32))), .val (.int (4 : Int32)), .val (.int (144 : Int32)), .val (.int (191 : Int32)), .val (.int (1 : Int32)), .val (.int (3 : Int32))] []))
                    refine Gl.go ?_ (fun t k => XS.goto X0.here hx rfl (pc0 := 235) (pc' := 197) rfl (hb hby d1_235) (by decide) (by decide) k)
                    show Gl _ _ _ _ (s₁.setTop (mkF m 197 #[.val (.ref a), .val (.int i), .val (.int to), .val (.int ((B i) &&& (255 : Int32))), .val (.int (4 : Int32)), .val (.int (144 : Int32)), .val (.int (191 : Int32)), .val (.int (1 : Int32)), .val (.int (3 : Int32))] []))
                    refine Gl.go ?_ (fun t k => XS.iload X0.here hx rfl (hb hby d1_197) rfl k)
                    show Gl _ _ _ _ (s₁.setTop (mkF m 199 #[.val (.ref a), .val (.int i), .val (.int to), .val (.int ((B i) &&& (255 : Int32))), .val (.int (4 : Int32)), .val (.int (144 : Int32)), .val (.int (191 : Int32)), .val (.int (1 : Int32)), .val (.int (3 : Int32))] [(.int (1 : Int32))]))
                    refine Gl.go ?_ (fun t k => XS.ifNo X0.here hx rfl (hb hby d1_199) rfl ((if0 _ _).trans (feq (by decide : ¬ ((1 : Int32) = (0 : Int32)))).1) k)
                    show Gl _ _ _ _ (s₁.setTop (mkF m 202 #[.val (.ref a), .val (.int i), .val (.int to), .val (.int ((B i) &&& (255 : Int32))), .val (.int (4 : Int32)), .val (.int (144 : Int32)), .val (.int (191 : Int32)), .val (.int (1 : Int32)), .val (.int (3 : Int32))] []))
                    refine Gl.go ?_ (fun t k => XS.iload X0.here hx rfl (hb hby d1_202) rfl k)
                    show Gl _ _ _ _ (s₁.setTop (mkF m 204 #[.val (.ref a), .val (.int i), .val (.int to), .val (.int ((B i) &&& (255 : Int32))), .val (.int (4 : Int32)), .val (.int (144 : Int32)), .val (.int (191 : Int32)), .val (.int (1 : Int32)), .val (.int (3 : Int32))] [(.int (3 : Int32))]))
                    refine Gl.go ?_ (fun t k => XS.iload X0.here hx rfl (hb hby d1_204) rfl k)
                    show Gl _ _ _ _ (s₁.setTop (mkF m 206 #[.val (.ref a), .val (.int i), .val (.int to), .val (.int ((B i) &&& (255 : Int32))), .val (.int (4 : Int32)), .val (.int (144 : Int32)), .val (.int (191 : Int32)), .val (.int (1 : Int32)), .val (.int (3 : Int32))] [(.int (4 : Int32)), (.int (3 : Int32))]))
                    refine Gl.go ?_ (fun t k => XS.icmpNo X0.here hx rfl (hb hby d1_206) rfl (tlt (by decide : (3 : Int32) < (4 : Int32))).2.1 k)
                    show Gl _ _ _ _ (s₁.setTop (mkF m 209 #[.val (.ref a), .val (.int i), .val (.int to), .val (.int ((B i) &&& (255 : Int32))), .val (.int (4 : Int32)), .val (.int (144 : Int32)), .val (.int (191 : Int32)), .val (.int (1 : Int32)), .val (.int (3 : Int32))] []))
                    refine Gl.go ?_ (fun t k => XS.aloadN X0.here hx rfl (hb hby d1_209) rfl rfl k)
                    show Gl _ _ _ _ (s₁.setTop (mkF m 210 #[.val (.ref a), .val (.int i), .val (.int to), .val (.int ((B i) &&& (255 : Int32))), .val (.int (4 : Int32)), .val (.int (144 : Int32)), .val (.int (191 : Int32)), .val (.int (1 : Int32)), .val (.int (3 : Int32))] [(.ref a)]))
                    refine Gl.go ?_ (fun t k => XS.iloadN X0.here hx rfl (hb hby d1_210) rfl k)
                    show Gl _ _ _ _ (s₁.setTop (mkF m 211 #[.val (.ref a), .val (.int i), .val (.int to), .val (.int ((B i) &&& (255 : Int32))), .val (.int (4 : Int32)), .val (.int (144 : Int32)), .val (.int (191 : Int32)), .val (.int (1 : Int32)), .val (.int (3 : Int32))] [(.int i), (.ref a)]))
                    refine Gl.go ?_ (fun t k => XS.iload X0.here hx rfl (hb hby d1_211) rfl k)
                    show Gl _ _ _ _ (s₁.setTop (mkF m 213 #[.val (.ref a), .val (.int i), .val (.int to), .val (.int ((B i) &&& (255 : Int32))), .val (.int (4 : Int32)), .val (.int (144 : Int32)), .val (.int (191 : Int32)), .val (.int (1 : Int32)), .val (.int (3 : Int32))] [(.int (3 : Int32)), (.int i), (.ref a)]))
                    refine Gl.go ?_ (fun t k => XS.iadd X0.here hx rfl (hb hby d1_213) rfl k)
                    show Gl _ _ _ _ (s₁.setTop (mkF m 214 #[.val (.ref a), .val (.int i), .val (.int to), .val (.int ((B i) &&& (255 : Int32))), .val (.int (4 : Int32)), .val (.int (144 : Int32)), .val (.int (191 : Int32)), .val (.int (1 : Int32)), .val (.int (3 : Int32))] [(.int (i + (3 : Int32))), (.ref a)]))
                    refine Gl.go ?_ (BA.rdB hB X0 hx hZ e0 hi3.1 hi3.2 (g := (mkF m 214 #[.val (.ref a), .val (.int i), .val (.int to), .val (.int ((B i) &&& (255 : Int32))), .val (.int (4 : Int32)), .val (.int (144 : Int32)), .val (.int (191 : Int32)), .val (.int (1 : Int32)), .val (.int (3 : Int32))] [(.int (i + (3 : Int32))), (.ref a)])) rfl rfl (hb hby d1_214))
                    show Gl _ _ _ _ (s₁.setTop (mkF m 215 #[.val (.ref a), .val (.int i), .val (.int to), .val (.int ((B i) &&& (255 : Int32))), .val (.int (4 : Int32)), .val (.int (144 : Int32)), .val (.int (191 : Int32)), .val (.int (1 : Int32)), .val (.int (3 : Int32))] [(.int (B (i + (3 : Int32))))]))
                    refine Gl.go ?_ (fun t k => XS.sipush X0.here hx rfl (hb hby d1_215) k)
                    show Gl _ _ _ _ (s₁.setTop (mkF m 218 #[.val (.ref a), .val (.int i), .val (.int to), .val (.int ((B i) &&& (255 : Int32))), .val (.int (4 : Int32)), .val (.int (144 : Int32)), .val (.int (191 : Int32)), .val (.int (1 : Int32)), .val (.int (3 : Int32))] [(.int (192 : Int32)), (.int (B (i + (3 : Int32))))]))
                    refine Gl.go ?_ (fun t k => XS.iand X0.here hx rfl (hb hby d1_218) rfl k)
                    show Gl _ _ _ _ (s₁.setTop (mkF m 219 #[.val (.ref a), .val (.int i), .val (.int to), .val (.int ((B i) &&& (255 : Int32))), .val (.int (4 : Int32)), .val (.int (144 : Int32)), .val (.int (191 : Int32)), .val (.int (1 : Int32)), .val (.int (3 : Int32))] [(.int ((B (i + (3 : Int32))) &&& (192 : Int32)))]))
                    refine Gl.go ?_ (fun t k => XS.sipush X0.here hx rfl (hb hby d1_219) k)
                    show Gl _ _ _ _ (s₁.setTop (mkF m 222 #[.val (.ref a), .val (.int i), .val (.int to), .val (.int ((B i) &&& (255 : Int32))), .val (.int (4 : Int32)), .val (.int (144 : Int32)), .val (.int (191 : Int32)), .val (.int (1 : Int32)), .val (.int (3 : Int32))] [(.int (128 : Int32)), (.int ((B (i + (3 : Int32))) &&& (192 : Int32)))]))
                    by_cases hc39 : ((B (i + (3 : Int32))) &&& (192 : Int32)) = (128 : Int32)
                    · refine Gl.go ?_ (fun t k => XS.icmpNo X0.here hx rfl (hb hby d1_222) rfl (teq hc39).2 k)
                      show Gl _ _ _ _ (s₁.setTop (mkF m 225 #[.val (.ref a), .val (.int i), .val (.int to), .val (.int ((B i) &&& (255 : Int32))), .val (.int (4 : Int32)), .val (.int (144 : Int32)), .val (.int (191 : Int32)), .val (.int (1 : Int32)), .val (.int (3 : Int32))] []))
                      refine Gl.go ?_ (fun t k => XS.iconst X0.here hx rfl (hb hby d1_225) k)
                      show Gl _ _ _ _ (s₁.setTop (mkF m 226 #[.val (.ref a), .val (.int i), .val (.int to), .val (.int ((B i) &&& (255 : Int32))), .val (.int (4 : Int32)), .val (.int (144 : Int32)), .val (.int (191 : Int32)), .val (.int (1 : Int32)), .val (.int (3 : Int32))] [(.int (1 : Int32))]))
                      refine Gl.go ?_ (fun t k => XS.goto X0.here hx rfl (pc0 := 226) (pc' := 230) rfl (hb hby d1_226) (by decide) (by decide) k)
                      show Gl _ _ _ _ (s₁.setTop (mkF m 230 #[.val (.ref a), .val (.int i), .val (.int to), .val (.int ((B i) &&& (255 : Int32))), .val (.int (4 : Int32)), .val (.int (144 : Int32)), .val (.int (191 : Int32)), .val (.int (1 : Int32)), .val (.int (3 : Int32))] [(.int (1 : Int32))]))
                      refine Gl.go ?_ (fun t k => XS.istore X0.here hx rfl (hb hby d1_230) rfl (l' := #[.val (.ref a), .val (.int i), .val (.int to), .val (.int ((B i) &&& (255 : Int32))), .val (.int (4 : Int32)), .val (.int (144 : Int32)), .val (.int (191 : Int32)), .val (.int (1 : Int32)), .val (.int (3 : Int32))]) rfl k)
                      show Gl _ _ _ _ (s₁.setTop (mkF m 232 #[.val (.ref a), .val (.int i), .val (.int to), .val (.int ((B i) &&& (255 : Int32))), .val (.int (4 : Int32)), .val (.int (144 : Int32)), .val (.int (191 : Int32)), .val (.int (1 : Int32)), .val (.int (3 : Int32))] []))
                      refine Gl.go ?_ (fun t k => XS.iinc X0.here hx rfl (hb hby d1_232) rfl (l' := #[.val (.ref a), .val (.int i), .val (.int to), .val (.int ((B i) &&& (255 : Int32))), .val (.int (4 : Int32)), .val (.int (144 : Int32)), .val (.int (191 : Int32)), .val (.int (1 : Int32)), .val (.int (4 : Int32))]) rfl k)
                      show Gl _ _ _ _ (s₁.setTop (mkF m 235 #[.val (.ref a), .val (.int i), .val (.int to), .val (.int ((B i) &&& (255 : Int32))), .val (.int (4 : Int32)), .val (.int (144 : Int32)), .val (.int (191 : Int32)), .val (.int (1 : Int32)), .val (.int (4 : Int32))] []))
                      refine Gl.go ?_ (fun t k => XS.goto X0.here hx rfl (pc0 := 235) (pc' := 197) rfl (hb hby d1_235) (by decide) (by decide) k)
                      show Gl _ _ _ _ (s₁.setTop (mkF m 197 #[.val (.ref a), .val (.int i), .val (.int to), .val (.int ((B i) &&& (255 : Int32))), .val (.int (4 : Int32)), .val (.int (144 : Int32)), .val (.int (191 : Int32)), .val (.int (1 : Int32)), .val (.int (4 : Int32))] []))
                      refine Gl.go ?_ (fun t k => XS.iload X0.here hx rfl (hb hby d1_197) rfl k)
                      show Gl _ _ _ _ (s₁.setTop (mkF m 199 #[.val (.ref a), .val (.int i), .val (.int to), .val (.int ((B i) &&& (255 : Int32))), .val (.int (4 : Int32)), .val (.int (144 : Int32)), .val (.int (191 : Int32)), .val (.int (1 : Int32)), .val (.int (4 : Int32))] [(.int (1 : Int32))]))
                      refine Gl.go ?_ (fun t k => XS.ifNo X0.here hx rfl (hb hby d1_199) rfl ((if0 _ _).trans (feq (by decide : ¬ ((1 : Int32) = (0 : Int32)))).1) k)
                      show Gl _ _ _ _ (s₁.setTop (mkF m 202 #[.val (.ref a), .val (.int i), .val (.int to), .val (.int ((B i) &&& (255 : Int32))), .val (.int (4 : Int32)), .val (.int (144 : Int32)), .val (.int (191 : Int32)), .val (.int (1 : Int32)), .val (.int (4 : Int32))] []))
                      refine Gl.go ?_ (fun t k => XS.iload X0.here hx rfl (hb hby d1_202) rfl k)
                      show Gl _ _ _ _ (s₁.setTop (mkF m 204 #[.val (.ref a), .val (.int i), .val (.int to), .val (.int ((B i) &&& (255 : Int32))), .val (.int (4 : Int32)), .val (.int (144 : Int32)), .val (.int (191 : Int32)), .val (.int (1 : Int32)), .val (.int (4 : Int32))] [(.int (4 : Int32))]))
                      refine Gl.go ?_ (fun t k => XS.iload X0.here hx rfl (hb hby d1_204) rfl k)
                      show Gl _ _ _ _ (s₁.setTop (mkF m 206 #[.val (.ref a), .val (.int i), .val (.int to), .val (.int ((B i) &&& (255 : Int32))), .val (.int (4 : Int32)), .val (.int (144 : Int32)), .val (.int (191 : Int32)), .val (.int (1 : Int32)), .val (.int (4 : Int32))] [(.int (4 : Int32)), (.int (4 : Int32))]))
                      refine Gl.go ?_ (fun t k => XS.icmpYes X0.here hx rfl (pc0 := 206) (pc' := 238) rfl (hb hby d1_206) rfl (flt (by decide : ¬ ((4 : Int32) < (4 : Int32)))).2.1 (by decide) (by decide) k)
                      show Gl _ _ _ _ (s₁.setTop (mkF m 238 #[.val (.ref a), .val (.int i), .val (.int to), .val (.int ((B i) &&& (255 : Int32))), .val (.int (4 : Int32)), .val (.int (144 : Int32)), .val (.int (191 : Int32)), .val (.int (1 : Int32)), .val (.int (4 : Int32))] []))
                      refine Gl.go ?_ (fun t k => XS.iload X0.here hx rfl (hb hby d1_238) rfl k)
                      show Gl _ _ _ _ (s₁.setTop (mkF m 240 #[.val (.ref a), .val (.int i), .val (.int to), .val (.int ((B i) &&& (255 : Int32))), .val (.int (4 : Int32)), .val (.int (144 : Int32)), .val (.int (191 : Int32)), .val (.int (1 : Int32)), .val (.int (4 : Int32))] [(.int (1 : Int32))]))
                      refine Gl.go ?_ (fun t k => XS.ifNo X0.here hx rfl (hb hby d1_240) rfl ((if0 _ _).trans (feq (by decide : ¬ ((1 : Int32) = (0 : Int32)))).1) k)
                      show Gl _ _ _ _ (s₁.setTop (mkF m 243 #[.val (.ref a), .val (.int i), .val (.int to), .val (.int ((B i) &&& (255 : Int32))), .val (.int (4 : Int32)), .val (.int (144 : Int32)), .val (.int (191 : Int32)), .val (.int (1 : Int32)), .val (.int (4 : Int32))] []))
                      refine Gl.go ?_ (fun t k => XS.iloadN X0.here hx rfl (hb hby d1_243) rfl k)
                      show Gl _ _ _ _ (s₁.setTop (mkF m 244 #[.val (.ref a), .val (.int i), .val (.int to), .val (.int ((B i) &&& (255 : Int32))), .val (.int (4 : Int32)), .val (.int (144 : Int32)), .val (.int (191 : Int32)), .val (.int (1 : Int32)), .val (.int (4 : Int32))] [(.int i)]))
                      refine Gl.go ?_ (fun t k => XS.iload X0.here hx rfl (hb hby d1_244) rfl k)
                      show Gl _ _ _ _ (s₁.setTop (mkF m 246 #[.val (.ref a), .val (.int i), .val (.int to), .val (.int ((B i) &&& (255 : Int32))), .val (.int (4 : Int32)), .val (.int (144 : Int32)), .val (.int (191 : Int32)), .val (.int (1 : Int32)), .val (.int (4 : Int32))] [(.int (4 : Int32)), (.int i)]))
                      refine Gl.go ?_ (fun t k => XS.iadd X0.here hx rfl (hb hby d1_246) rfl k)
                      show Gl _ _ _ _ (s₁.setTop (mkF m 247 #[.val (.ref a), .val (.int i), .val (.int to), .val (.int ((B i) &&& (255 : Int32))), .val (.int (4 : Int32)), .val (.int (144 : Int32)), .val (.int (191 : Int32)), .val (.int (1 : Int32)), .val (.int (4 : Int32))] [(.int (i + (4 : Int32)))]))
                      refine Gl.go ?_ (fun t k => XS.goto X0.here hx rfl (pc0 := 247) (pc' := 251) rfl (hb hby d1_247) (by decide) (by decide) k)
                      show Gl _ _ _ _ (s₁.setTop (mkF m 251 #[.val (.ref a), .val (.int i), .val (.int to), .val (.int ((B i) &&& (255 : Int32))), .val (.int (4 : Int32)), .val (.int (144 : Int32)), .val (.int (191 : Int32)), .val (.int (1 : Int32)), .val (.int (4 : Int32))] [(.int (i + (4 : Int32)))]))
                      obtain ⟨fs, hr, hrun, hended, hW, hsame⟩ := X0.leave (v := some (.int (i + (4 : Int32)))) (fun h => by rw [Bd.returns] at h; cases h) (BodyLoose.notSynchronized Bd)
                      exact Gl.mk ⟨_, _, retI X0 hx Bd.returns (hb hby d1_251) hr, hrun, hended, _, _, rfl, ⟨congrArg (fun z => some (Value.int z)) ((if_neg hc30).trans ((if_pos hc31).trans ((if_pos hc32).trans ((if_neg hc33).trans ((if_pos hc34).trans ((if_neg hc35).trans ((if_neg hc36).trans ((if_neg hc37).trans ((if_pos hc38).trans ((if_pos hc39).trans (rfl))))))))))).symm, rfl, e0⟩, ⟨_, rfl⟩, hW, hsame.mono (by decide) (by decide)⟩
                    · refine Gl.go ?_ (fun t k => XS.icmpYes X0.here hx rfl (pc0 := 222) (pc' := 229) rfl (hb hby d1_222) rfl (feq hc39).2 (by decide) (by decide) k)
                      show Gl _ _ _ _ (s₁.setTop (mkF m 229 #[.val (.ref a), .val (.int i), .val (.int to), .val (.int ((B i) &&& (255 : Int32))), .val (.int (4 : Int32)), .val (.int (144 : Int32)), .val (.int (191 : Int32)), .val (.int (1 : Int32)), .val (.int (3 : Int32))] []))
                      refine Gl.go ?_ (fun t k => XS.iconst X0.here hx rfl (hb hby d1_229) k)
                      show Gl _ _ _ _ (s₁.setTop (mkF m 230 #[.val (.ref a), .val (.int i), .val (.int to), .val (.int ((B i) &&& (255 : Int32))), .val (.int (4 : Int32)), .val (.int (144 : Int32)), .val (.int (191 : Int32)), .val (.int (1 : Int32)), .val (.int (3 : Int32))] [(.int (0 : Int32))]))
                      refine Gl.go ?_ (fun t k => XS.istore X0.here hx rfl (hb hby d1_230) rfl (l' := #[.val (.ref a), .val (.int i), .val (.int to), .val (.int ((B i) &&& (255 : Int32))), .val (.int (4 : Int32)), .val (.int (144 : Int32)), .val (.int (191 : Int32)), .val (.int (0 : Int32)), .val (.int (3 : Int32))]) rfl k)
                      show Gl _ _ _ _ (s₁.setTop (mkF m 232 #[.val (.ref a), .val (.int i), .val (.int to), .val (.int ((B i) &&& (255 : Int32))), .val (.int (4 : Int32)), .val (.int (144 : Int32)), .val (.int (191 : Int32)), .val (.int (0 : Int32)), .val (.int (3 : Int32))] []))
                      refine Gl.go ?_ (fun t k => XS.iinc X0.here hx rfl (hb hby d1_232) rfl (l' := #[.val (.ref a), .val (.int i), .val (.int to), .val (.int ((B i) &&& (255 : Int32))), .val (.int (4 : Int32)), .val (.int (144 : Int32)), .val (.int (191 : Int32)), .val (.int (0 : Int32)), .val (.int (4 : Int32))]) rfl k)
                      show Gl _ _ _ _ (s₁.setTop (mkF m 235 #[.val (.ref a), .val (.int i), .val (.int to), .val (.int ((B i) &&& (255 : Int32))), .val (.int (4 : Int32)), .val (.int (144 : Int32)), .val (.int (191 : Int32)), .val (.int (0 : Int32)), .val (.int (4 : Int32))] []))
                      refine Gl.go ?_ (fun t k => XS.goto X0.here hx rfl (pc0 := 235) (pc' := 197) rfl (hb hby d1_235) (by decide) (by decide) k)
                      show Gl _ _ _ _ (s₁.setTop (mkF m 197 #[.val (.ref a), .val (.int i), .val (.int to), .val (.int ((B i) &&& (255 : Int32))), .val (.int (4 : Int32)), .val (.int (144 : Int32)), .val (.int (191 : Int32)), .val (.int (0 : Int32)), .val (.int (4 : Int32))] []))
                      refine Gl.go ?_ (fun t k => XS.iload X0.here hx rfl (hb hby d1_197) rfl k)
                      show Gl _ _ _ _ (s₁.setTop (mkF m 199 #[.val (.ref a), .val (.int i), .val (.int to), .val (.int ((B i) &&& (255 : Int32))), .val (.int (4 : Int32)), .val (.int (144 : Int32)), .val (.int (191 : Int32)), .val (.int (0 : Int32)), .val (.int (4 : Int32))] [(.int (0 : Int32))]))
                      refine Gl.go ?_ (fun t k => XS.ifYes X0.here hx rfl (pc0 := 199) (pc' := 238) rfl (hb hby d1_199) rfl ((if0 _ _).trans (teq (by decide : (0 : Int32) = (0 : Int32))).1) (by decide) (by decide) k)
                      show Gl _ _ _ _ (s₁.setTop (mkF m 238 #[.val (.ref a), .val (.int i), .val (.int to), .val (.int ((B i) &&& (255 : Int32))), .val (.int (4 : Int32)), .val (.int (144 : Int32)), .val (.int (191 : Int32)), .val (.int (0 : Int32)), .val (.int (4 : Int32))] []))
                      refine Gl.go ?_ (fun t k => XS.iload X0.here hx rfl (hb hby d1_238) rfl k)
                      show Gl _ _ _ _ (s₁.setTop (mkF m 240 #[.val (.ref a), .val (.int i), .val (.int to), .val (.int ((B i) &&& (255 : Int32))), .val (.int (4 : Int32)), .val (.int (144 : Int32)), .val (.int (191 : Int32)), .val (.int (0 : Int32)), .val (.int (4 : Int32))] [(.int (0 : Int32))]))
                      refine Gl.go ?_ (fun t k => XS.ifYes X0.here hx rfl (pc0 := 240) (pc' := 250) rfl (hb hby d1_240) rfl ((if0 _ _).trans (teq (by decide : (0 : Int32) = (0 : Int32))).1) (by decide) (by decide) k)
                      show Gl _ _ _ _ (s₁.setTop (mkF m 250 #[.val (.ref a), .val (.int i), .val (.int to), .val (.int ((B i) &&& (255 : Int32))), .val (.int (4 : Int32)), .val (.int (144 : Int32)), .val (.int (191 : Int32)), .val (.int (0 : Int32)), .val (.int (4 : Int32))] []))
                      refine Gl.go ?_ (fun t k => XS.iconst X0.here hx rfl (hb hby d1_250) k)
                      show Gl _ _ _ _ (s₁.setTop (mkF m 251 #[.val (.ref a), .val (.int i), .val (.int to), .val (.int ((B i) &&& (255 : Int32))), .val (.int (4 : Int32)), .val (.int (144 : Int32)), .val (.int (191 : Int32)), .val (.int (0 : Int32)), .val (.int (4 : Int32))] [(.int (-1 : Int32))]))
                      obtain ⟨fs, hr, hrun, hended, hW, hsame⟩ := X0.leave (v := some (.int (-1 : Int32))) (fun h => by rw [Bd.returns] at h; cases h) (BodyLoose.notSynchronized Bd)
                      exact Gl.mk ⟨_, _, retI X0 hx Bd.returns (hb hby d1_251) hr, hrun, hended, _, _, rfl, ⟨congrArg (fun z => some (Value.int z)) ((if_neg hc30).trans ((if_pos hc31).trans ((if_pos hc32).trans ((if_neg hc33).trans ((if_pos hc34).trans ((if_neg hc35).trans ((if_neg hc36).trans ((if_neg hc37).trans ((if_pos hc38).trans ((if_neg hc39).trans (rfl))))))))))).symm, rfl, e0⟩, ⟨_, rfl⟩, hW, hsame.mono (by decide) (by decide)⟩
                  · refine Gl.go ?_ (fun t k => XS.icmpYes X0.here hx rfl (pc0 := 222) (pc' := 229) rfl (hb hby d1_222) rfl (feq hc38).2 (by decide) (by decide) k)
                    show Gl _ _ _ _ (s₁.setTop (mkF m 229 #[.val (.ref a), .val (.int i), .val (.int to), .val (.int ((B i) &&& (255 : Int32))), .val (.int (4 : Int32)), .val (.int (144 : Int32)), .val (.int (191 : Int32)), .val (.int (1 : Int32)), .val (.int (2 : Int32))] []))
                    refine Gl.go ?_ (fun t k => XS.iconst X0.here hx rfl (hb hby d1_229) k)
                    show Gl _ _ _ _ (s₁.setTop (mkF m 230 #[.val (.ref a), .val (.int i), .val (.int to), .val (.int ((B i) &&& (255 : Int32))), .val (.int (4 : Int32)), .val (.int (144 : Int32)), .val (.int (191 : Int32)), .val (.int (1 : Int32)), .val (.int (2 : Int32))] [(.int (0 : Int32))]))
                    refine Gl.go ?_ (fun t k => XS.istore X0.here hx rfl (hb hby d1_230) rfl (l' := #[.val (.ref a), .val (.int i), .val (.int to), .val (.int ((B i) &&& (255 : Int32))), .val (.int (4 : Int32)), .val (.int (144 : Int32)), .val (.int (191 : Int32)), .val (.int (0 : Int32)), .val (.int (2 : Int32))]) rfl k)
                    show Gl _ _ _ _ (s₁.setTop (mkF m 232 #[.val (.ref a), .val (.int i), .val (.int to), .val (.int ((B i) &&& (255 : Int32))), .val (.int (4 : Int32)), .val (.int (144 : Int32)), .val (.int (191 : Int32)), .val (.int (0 : Int32)), .val (.int (2 : Int32))] []))
                    refine Gl.go ?_ (fun t k => XS.iinc X0.here hx rfl (hb hby d1_232) rfl (l' := #[.val (.ref a), .val (.int i), .val (.int to), .val (.int ((B i) &&& (255 : Int32))), .val (.int (4 : Int32)), .val (.int (144 : Int32)), .val (.int (191 : Int32)), .val (.int (0 : Int32)), .val (.int (3 : Int32))]) rfl k)
                    show Gl _ _ _ _ (s₁.setTop (mkF m 235 #[.val (.ref a), .val (.int i), .val (.int to), .val (.int ((B i) &&& (255 : Int32))), .val (.int (4 : Int32)), .val (.int (144 : Int32)), .val (.int (191 : Int32)), .val (.int (0 : Int32)), .val (.int (3 : Int32))] []))
                    refine Gl.go ?_ (fun t k => XS.goto X0.here hx rfl (pc0 := 235) (pc' := 197) rfl (hb hby d1_235) (by decide) (by decide) k)
                    show Gl _ _ _ _ (s₁.setTop (mkF m 197 #[.val (.ref a), .val (.int i), .val (.int to), .val (.int ((B i) &&& (255 : Int32))), .val (.int (4 : Int32)), .val (.int (144 : Int32)), .val (.int (191 : Int32)), .val (.int (0 : Int32)), .val (.int (3 : Int32))] []))
                    refine Gl.go ?_ (fun t k => XS.iload X0.here hx rfl (hb hby d1_197) rfl k)
                    show Gl _ _ _ _ (s₁.setTop (mkF m 199 #[.val (.ref a), .val (.int i), .val (.int to), .val (.int ((B i) &&& (255 : Int32))), .val (.int (4 : Int32)), .val (.int (144 : Int32)), .val (.int (191 : Int32)), .val (.int (0 : Int32)), .val (.int (3 : Int32))] [(.int (0 : Int32))]))
                    refine Gl.go ?_ (fun t k => XS.ifYes X0.here hx rfl (pc0 := 199) (pc' := 238) rfl (hb hby d1_199) rfl ((if0 _ _).trans (teq (by decide : (0 : Int32) = (0 : Int32))).1) (by decide) (by decide) k)
                    show Gl _ _ _ _ (s₁.setTop (mkF m 238 #[.val (.ref a), .val (.int i), .val (.int to), .val (.int ((B i) &&& (255 : Int32))), .val (.int (4 : Int32)), .val (.int (144 : Int32)), .val (.int (191 : Int32)), .val (.int (0 : Int32)), .val (.int (3 : Int32))] []))
                    refine Gl.go ?_ (fun t k => XS.iload X0.here hx rfl (hb hby d1_238) rfl k)
                    show Gl _ _ _ _ (s₁.setTop (mkF m 240 #[.val (.ref a), .val (.int i), .val (.int to), .val (.int ((B i) &&& (255 : Int32))), .val (.int (4 : Int32)), .val (.int (144 : Int32)), .val (.int (191 : Int32)), .val (.int (0 : Int32)), .val (.int (3 : Int32))] [(.int (0 : Int32))]))
                    refine Gl.go ?_ (fun t k => XS.ifYes X0.here hx rfl (pc0 := 240) (pc' := 250) rfl (hb hby d1_240) rfl ((if0 _ _).trans (teq (by decide : (0 : Int32) = (0 : Int32))).1) (by decide) (by decide) k)
                    show Gl _ _ _ _ (s₁.setTop (mkF m 250 #[.val (.ref a), .val (.int i), .val (.int to), .val (.int ((B i) &&& (255 : Int32))), .val (.int (4 : Int32)), .val (.int (144 : Int32)), .val (.int (191 : Int32)), .val (.int (0 : Int32)), .val (.int (3 : Int32))] []))
                    refine Gl.go ?_ (fun t k => XS.iconst X0.here hx rfl (hb hby d1_250) k)
                    show Gl _ _ _ _ (s₁.setTop (mkF m 251 #[.val (.ref a), .val (.int i), .val (.int to), .val (.int ((B i) &&& (255 : Int32))), .val (.int (4 : Int32)), .val (.int (144 : Int32)), .val (.int (191 : Int32)), .val (.int (0 : Int32)), .val (.int (3 : Int32))] [(.int (-1 : Int32))]))
                    obtain ⟨fs, hr, hrun, hended, hW, hsame⟩ := X0.leave (v := some (.int (-1 : Int32))) (fun h => by rw [Bd.returns] at h; cases h) (BodyLoose.notSynchronized Bd)
                    exact Gl.mk ⟨_, _, retI X0 hx Bd.returns (hb hby d1_251) hr, hrun, hended, _, _, rfl, ⟨congrArg (fun z => some (Value.int z)) ((if_neg hc30).trans ((if_pos hc31).trans ((if_pos hc32).trans ((if_neg hc33).trans ((if_pos hc34).trans ((if_neg hc35).trans ((if_neg hc36).trans ((if_neg hc37).trans ((if_neg hc38).trans (rfl)))))))))).symm, rfl, e0⟩, ⟨_, rfl⟩, hW, hsame.mono (by decide) (by decide)⟩
          · refine Gl.go ?_ (fun t k => XS.icmpYes X0.here hx rfl (pc0 := 116) (pc' := 125) rfl (hb hby d1_116) rfl (feq hc34).2 (by decide) (by decide) k)
            show Gl _ _ _ _ (s₁.setTop (mkF m 125 #[.val (.ref a), .val (.int i), .val (.int to), .val (.int ((B i) &&& (255 : Int32))), .val (.int (4 : Int32)), .val (.int (128 : Int32)), .val (.int (191 : Int32)), .unset, .unset] []))
            refine Gl.go ?_ (fun t k => XS.iload X0.here hx rfl (hb hby d1_125) rfl k)
            show Gl _ _ _ _ (s₁.setTop (mkF m 127 #[.val (.ref a), .val (.int i), .val (.int to), .val (.int ((B i) &&& (255 : Int32))), .val (.int (4 : Int32)), .val (.int (128 : Int32)), .val (.int (191 : Int32)), .unset, .unset] [(.int (128 : Int32))]))
            refine Gl.go ?_ (fun t k => XS.istore X0.here hx rfl (hb hby d1_127) rfl (l' := #[.val (.ref a), .val (.int i), .val (.int to), .val (.int ((B i) &&& (255 : Int32))), .val (.int (4 : Int32)), .val (.int (128 : Int32)), .val (.int (191 : Int32)), .unset, .unset]) rfl k)
            show Gl _ _ _ _ (s₁.setTop (mkF m 129 #[.val (.ref a), .val (.int i), .val (.int to), .val (.int ((B i) &&& (255 : Int32))), .val (.int (4 : Int32)), .val (.int (128 : Int32)), .val (.int (191 : Int32)), .unset, .unset] []))
            refine Gl.go ?_ (fun t k => XS.iloadN X0.here hx rfl (hb hby d1_129) rfl k)
            show Gl _ _ _ _ (s₁.setTop (mkF m 130 #[.val (.ref a), .val (.int i), .val (.int to), .val (.int ((B i) &&& (255 : Int32))), .val (.int (4 : Int32)), .val (.int (128 : Int32)), .val (.int (191 : Int32)), .unset, .unset] [(.int ((B i) &&& (255 : Int32)))]))
            refine Gl.go ?_ (fun t k => XS.sipush X0.here hx rfl (hb hby d1_130) k)
            show Gl _ _ _ _ (s₁.setTop (mkF m 133 #[.val (.ref a), .val (.int i), .val (.int to), .val (.int ((B i) &&& (255 : Int32))), .val (.int (4 : Int32)), .val (.int (128 : Int32)), .val (.int (191 : Int32)), .unset, .unset] [(.int (244 : Int32)), (.int ((B i) &&& (255 : Int32)))]))
            by_cases hc40 : ((B i) &&& (255 : Int32)) = (244 : Int32)
            · refine Gl.go ?_ (fun t k => XS.icmpNo X0.here hx rfl (hb hby d1_133) rfl (teq hc40).2 k)
              show Gl _ _ _ _ (s₁.setTop (mkF m 136 #[.val (.ref a), .val (.int i), .val (.int to), .val (.int ((B i) &&& (255 : Int32))), .val (.int (4 : Int32)), .val (.int (128 : Int32)), .val (.int (191 : Int32)), .unset, .unset] []))
              refine Gl.go ?_ (fun t k => XS.sipush X0.here hx rfl (hb hby d1_136) k)
              show Gl _ _ _ _ (s₁.setTop (mkF m 139 #[.val (.ref a), .val (.int i), .val (.int to), .val (.int ((B i) &&& (255 : Int32))), .val (.int (4 : Int32)), .val (.int (128 : Int32)), .val (.int (191 : Int32)), .unset, .unset] [(.int (143 : Int32))]))
              refine Gl.go ?_ (fun t k => XS.goto X0.here hx rfl (pc0 := 139) (pc' := 144) rfl (hb hby d1_139) (by decide) (by decide) k)
              show Gl _ _ _ _ (s₁.setTop (mkF m 144 #[.val (.ref a), .val (.int i), .val (.int to), .val (.int ((B i) &&& (255 : Int32))), .val (.int (4 : Int32)), .val (.int (128 : Int32)), .val (.int (191 : Int32)), .unset, .unset] [(.int (143 : Int32))]))
              refine Gl.go ?_ (fun t k => XS.istore X0.here hx rfl (hb hby d1_144) rfl (l' := #[.val (.ref a), .val (.int i), .val (.int to), .val (.int ((B i) &&& (255 : Int32))), .val (.int (4 : Int32)), .val (.int (128 : Int32)), .val (.int (143 : Int32)), .unset, .unset]) rfl k)
              show Gl _ _ _ _ (s₁.setTop (mkF m 146 #[.val (.ref a), .val (.int i), .val (.int to), .val (.int ((B i) &&& (255 : Int32))), .val (.int (4 : Int32)), .val (.int (128 : Int32)), .val (.int (143 : Int32)), .unset, .unset] []))
              refine Gl.go ?_ (fun t k => XS.iload X0.here hx rfl (hb hby d1_146) rfl k)
              show Gl _ _ _ _ (s₁.setTop (mkF m 148 #[.val (.ref a), .val (.int i), .val (.int to), .val (.int ((B i) &&& (255 : Int32))), .val (.int (4 : Int32)), .val (.int (128 : Int32)), .val (.int (143 : Int32)), .unset, .unset] [(.int (4 : Int32))]))
              refine Gl.go ?_ (fun t k => XS.ifNo X0.here hx rfl (hb hby d1_148) rfl ((if0 _ _).trans (tlt (by decide : (0 : Int32) < (4 : Int32))).2.2.2) k)
              show Gl _ _ _ _ (s₁.setTop (mkF m 151 #[.val (.ref a), .val (.int i), .val (.int to), .val (.int ((B i) &&& (255 : Int32))), .val (.int (4 : Int32)), .val (.int (128 : Int32)), .val (.int (143 : Int32)), .unset, .unset] []))
              refine Gl.go ?_ (fun t k => XS.iloadN X0.here hx rfl (hb hby d1_151) rfl k)
              show Gl _ _ _ _ (s₁.setTop (mkF m 152 #[.val (.ref a), .val (.int i), .val (.int to), .val (.int ((B i) &&& (255 : Int32))), .val (.int (4 : Int32)), .val (.int (128 : Int32)), .val (.int (143 : Int32)), .unset, .unset] [(.int to)]))
              refine Gl.go ?_ (fun t k => XS.iloadN X0.here hx rfl (hb hby d1_152) rfl k)
              show Gl _ _ _ _ (s₁.setTop (mkF m 153 #[.val (.ref a), .val (.int i), .val (.int to), .val (.int ((B i) &&& (255 : Int32))), .val (.int (4 : Int32)), .val (.int (128 : Int32)), .val (.int (143 : Int32)), .unset, .unset] [(.int i), (.int to)]))
              refine Gl.go ?_ (fun t k => XS.isub X0.here hx rfl (hb hby d1_153) rfl k)
              show Gl _ _ _ _ (s₁.setTop (mkF m 154 #[.val (.ref a), .val (.int i), .val (.int to), .val (.int ((B i) &&& (255 : Int32))), .val (.int (4 : Int32)), .val (.int (128 : Int32)), .val (.int (143 : Int32)), .unset, .unset] [(.int (to - i))]))
              refine Gl.go ?_ (fun t k => XS.iload X0.here hx rfl (hb hby d1_154) rfl k)
              show Gl _ _ _ _ (s₁.setTop (mkF m 156 #[.val (.ref a), .val (.int i), .val (.int to), .val (.int ((B i) &&& (255 : Int32))), .val (.int (4 : Int32)), .val (.int (128 : Int32)), .val (.int (143 : Int32)), .unset, .unset] [(.int (4 : Int32)), (.int (to - i))]))
              by_cases hc41 : (to - i) < (4 : Int32)
              · refine Gl.go ?_ (fun t k => XS.icmpYes X0.here hx rfl (pc0 := 156) (pc' := 191) rfl (hb hby d1_156) rfl (tlt hc41).1 (by decide) (by decide) k)
                show Gl _ _ _ _ (s₁.setTop (mkF m 191 #[.val (.ref a), .val (.int i), .val (.int to), .val (.int ((B i) &&& (255 : Int32))), .val (.int (4 : Int32)), .val (.int (128 : Int32)), .val (.int (143 : Int32)), .unset, .unset] []))
                refine Gl.go ?_ (fun t k => XS.iconst X0.here hx rfl (hb hby d1_191) k)
                show Gl _ _ _ _ (s₁.setTop (mkF m 192 #[.val (.ref a), .val (.int i), .val (.int to), .val (.int ((B i) &&& (255 : Int32))), .val (.int (4 : Int32)), .val (.int (128 : Int32)), .val (.int (143 : Int32)), .unset, .unset] [(.int (0 : Int32))]))
                refine Gl.go ?_ (fun t k => XS.istore X0.here hx rfl (hb hby d1_192) rfl (l' := #[.val (.ref a), .val (.int i), .val (.int to), .val (.int ((B i) &&& (255 : Int32))), .val (.int (4 : Int32)), .val (.int (128 : Int32)), .val (.int (143 : Int32)), .val (.int (0 : Int32)), .unset]) rfl k)
                show Gl _ _ _ _ (s₁.setTop (mkF m 194 #[.val (.ref a), .val (.int i), .val (.int to), .val (.int ((B i) &&& (255 : Int32))), .val (.int (4 : Int32)), .val (.int (128 : Int32)), .val (.int (143 : Int32)), .val (.int (0 : Int32)), .unset] []))
                refine Gl.go ?_ (fun t k => XS.iconst X0.here hx rfl (hb hby d1_194) k)
                show Gl _ _ _ _ (s₁.setTop (mkF m 195 #[.val (.ref a), .val (.int i), .val (.int to), .val (.int ((B i) &&& (255 : Int32))), .val (.int (4 : Int32)), .val (.int (128 : Int32)), .val (.int (143 : Int32)), .val (.int (0 : Int32)), .unset] [(.int (2 : Int32))]))
                refine Gl.go ?_ (fun t k => XS.istore X0.here hx rfl (hb hby d1_195) rfl (l' := #[.val (.ref a), .val (.int i), .val (.int to), .val (.int ((B i) &&& (255 : Int32))), .val (.int (4 : Int32)), .val (.int (128 : Int32)), .val (.int (143 : Int32)), .val (.int (0 : Int32)), .val (.int (2 : Int32))]) rfl k)
                show Gl _ _ _ _ (s₁.setTop (mkF m 197 #[.val (.ref a), .val (.int i), .val (.int to), .val (.int ((B i) &&& (255 : Int32))), .val (.int (4 : Int32)), .val (.int (128 : Int32)), .val (.int (143 : Int32)), .val (.int (0 : Int32)), .val (.int (2 : Int32))] []))
                refine Gl.go ?_ (fun t k => XS.iload X0.here hx rfl (hb hby d1_197) rfl k)
                show Gl _ _ _ _ (s₁.setTop (mkF m 199 #[.val (.ref a), .val (.int i), .val (.int to), .val (.int ((B i) &&& (255 : Int32))), .val (.int (4 : Int32)), .val (.int (128 : Int32)), .val (.int (143 : Int32)), .val (.int (0 : Int32)), .val (.int (2 : Int32))] [(.int (0 : Int32))]))
                refine Gl.go ?_ (fun t k => XS.ifYes X0.here hx rfl (pc0 := 199) (pc' := 238) rfl (hb hby d1_199) rfl ((if0 _ _).trans (teq (by decide : (0 : Int32) = (0 : Int32))).1) (by decide) (by decide) k)
                show Gl _ _ _ _ (s₁.setTop (mkF m 238 #[.val (.ref a), .val (.int i), .val (.int to), .val (.int ((B i) &&& (255 : Int32))), .val (.int (4 : Int32)), .val (.int (128 : Int32)), .val (.int (143 : Int32)), .val (.int (0 : Int32)), .val (.int (2 : Int32))] []))
                refine Gl.go ?_ (fun t k => XS.iload X0.here hx rfl (hb hby d1_238) rfl k)
                show Gl _ _ _ _ (s₁.setTop (mkF m 240 #[.val (.ref a), .val (.int i), .val (.int to), .val (.int ((B i) &&& (255 : Int32))), .val (.int (4 : Int32)), .val (.int (128 : Int32)), .val (.int (143 : Int32)), .val (.int (0 : Int32)), .val (.int (2 : Int32))] [(.int (0 : Int32))]))
                refine Gl.go ?_ (fun t k => XS.ifYes X0.here hx rfl (pc0 := 240) (pc' := 250) rfl (hb hby d1_240) rfl ((if0 _ _).trans (teq (by decide : (0 : Int32) = (0 : Int32))).1) (by decide) (by decide) k)
                show Gl _ _ _ _ (s₁.setTop (mkF m 250 #[.val (.ref a), .val (.int i), .val (.int to), .val (.int ((B i) &&& (255 : Int32))), .val (.int (4 : Int32)), .val (.int (128 : Int32)), .val (.int (143 : Int32)), .val (.int (0 : Int32)), .val (.int (2 : Int32))] []))
                refine Gl.go ?_ (fun t k => XS.iconst X0.here hx rfl (hb hby d1_250) k)
                show Gl _ _ _ _ (s₁.setTop (mkF m 251 #[.val (.ref a), .val (.int i), .val (.int to), .val (.int ((B i) &&& (255 : Int32))), .val (.int (4 : Int32)), .val (.int (128 : Int32)), .val (.int (143 : Int32)), .val (.int (0 : Int32)), .val (.int (2 : Int32))] [(.int (-1 : Int32))]))
                obtain ⟨fs, hr, hrun, hended, hW, hsame⟩ := X0.leave (v := some (.int (-1 : Int32))) (fun h => by rw [Bd.returns] at h; cases h) (BodyLoose.notSynchronized Bd)
                exact Gl.mk ⟨_, _, retI X0 hx Bd.returns (hb hby d1_251) hr, hrun, hended, _, _, rfl, ⟨congrArg (fun z => some (Value.int z)) ((if_neg hc30).trans ((if_pos hc31).trans ((if_pos hc32).trans ((if_neg hc33).trans ((if_neg hc34).trans ((if_pos hc40).trans ((if_pos hc41).trans (rfl)))))))).symm, rfl, e0⟩, ⟨_, rfl⟩, hW, hsame.mono (by decide) (by decide)⟩
              · refine Gl.go ?_ (fun t k => XS.icmpNo X0.here hx rfl (hb hby d1_156) rfl (flt hc41).1 k)
                show Gl _ _ _ _ (s₁.setTop (mkF m 159 #[.val (.ref a), .val (.int i), .val (.int to), .val (.int ((B i) &&& (255 : Int32))), .val (.int (4 : Int32)), .val (.int (128 : Int32)), .val (.int (143 : Int32)), .unset, .unset] []))
                refine Gl.go ?_ (fun t k => XS.aloadN X0.here hx rfl (hb hby d1_159) rfl rfl k)
                show Gl _ _ _ _ (s₁.setTop (mkF m 160 #[.val (.ref a), .val (.int i), .val (.int to), .val (.int ((B i) &&& (255 : Int32))), .val (.int (4 : Int32)), .val (.int (128 : Int32)), .val (.int (143 : Int32)), .unset, .unset] [(.ref a)]))
                refine Gl.go ?_ (fun t k => XS.iloadN X0.here hx rfl (hb hby d1_160) rfl k)
                show Gl _ _ _ _ (s₁.setTop (mkF m 161 #[.val (.ref a), .val (.int i), .val (.int to), .val (.int ((B i) &&& (255 : Int32))), .val (.int (4 : Int32)), .val (.int (128 : Int32)), .val (.int (143 : Int32)), .unset, .unset] [(.int i), (.ref a)]))
                refine Gl.go ?_ (fun t k => XS.iconst X0.here hx rfl (hb hby d1_161) k)
                show Gl _ _ _ _ (s₁.setTop (mkF m 162 #[.val (.ref a), .val (.int i), .val (.int to), .val (.int ((B i) &&& (255 : Int32))), .val (.int (4 : Int32)), .val (.int (128 : Int32)), .val (.int (143 : Int32)), .unset, .unset] [(.int (1 : Int32)), (.int i), (.ref a)]))
                refine Gl.go ?_ (fun t k => XS.iadd X0.here hx rfl (hb hby d1_162) rfl k)
                show Gl _ _ _ _ (s₁.setTop (mkF m 163 #[.val (.ref a), .val (.int i), .val (.int to), .val (.int ((B i) &&& (255 : Int32))), .val (.int (4 : Int32)), .val (.int (128 : Int32)), .val (.int (143 : Int32)), .unset, .unset] [(.int (i + (1 : Int32))), (.ref a)]))
                refine Gl.go ?_ (BA.rdB hB X0 hx hZ e0 hi1.1 hi1.2 (g := (mkF m 163 #[.val (.ref a), .val (.int i), .val (.int to), .val (.int ((B i) &&& (255 : Int32))), .val (.int (4 : Int32)), .val (.int (128 : Int32)), .val (.int (143 : Int32)), .unset, .unset] [(.int (i + (1 : Int32))), (.ref a)])) rfl rfl (hb hby d1_163))
                show Gl _ _ _ _ (s₁.setTop (mkF m 164 #[.val (.ref a), .val (.int i), .val (.int to), .val (.int ((B i) &&& (255 : Int32))), .val (.int (4 : Int32)), .val (.int (128 : Int32)), .val (.int (143 : Int32)), .unset, .unset] [(.int (B (i + (1 : Int32))))]))
                refine Gl.go ?_ (fun t k => XS.sipush X0.here hx rfl (hb hby d1_164) k)
                show Gl _ _ _ _ (s₁.setTop (mkF m 167 #[.val (.ref a), .val (.int i), .val (.int to), .val (.int ((B i) &&& (255 : Int32))), .val (.int (4 : Int32)), .val (.int (128 : Int32)), .val (.int (143 : Int32)), .unset, .unset] [(.int (255 : Int32)), (.int (B (i + (1 : Int32))))]))
                refine Gl.go ?_ (fun t k => XS.iand X0.here hx rfl (hb hby d1_167) rfl k)
                show Gl _ _ _ _ (s₁.setTop (mkF m 168 #[.val (.ref a), .val (.int i), .val (.int to), .val (.int ((B i) &&& (255 : Int32))), .val (.int (4 : Int32)), .val (.int (128 : Int32)), .val (.int (143 : Int32)), .unset, .unset] [(.int ((B (i + (1 : Int32))) &&& (255 : Int32)))]))
                refine Gl.go ?_ (fun t k => XS.iload X0.here hx rfl (hb hby d1_168) rfl k)
                show Gl _ _ _ _ (s₁.setTop (mkF m 170 #[.val (.ref a), .val (.int i), .val (.int to), .val (.int ((B i) &&& (255 : Int32))), .val (.int (4 : Int32)), .val (.int (128 : Int32)), .val (.int (143 : Int32)), .unset, .unset] [(.int (128 : Int32)), (.int ((B (i + (1 : Int32))) &&& (255 : Int32)))]))
                by_cases hc42 : ((B (i + (1 : Int32))) &&& (255 : Int32)) < (128 : Int32)
                · refine Gl.go ?_ (fun t k => XS.icmpYes X0.here hx rfl (pc0 := 170) (pc' := 191) rfl (hb hby d1_170) rfl (tlt hc42).1 (by decide) (by decide) k)
                  show Gl _ _ _ _ (s₁.setTop (mkF m 191 #[.val (.ref a), .val (.int i), .val (.int to), .val (.int ((B i) &&& (255 : Int32))), .val (.int (4 : Int32)), .val (.int (128 : Int32)), .val (.int (143 : Int32)), .unset, .unset] []))
                  refine Gl.go ?_ (fun t k => XS.iconst X0.here hx rfl (hb hby d1_191) k)
                  show Gl _ _ _ _ (s₁.setTop (mkF m 192 #[.val (.ref a), .val (.int i), .val (.int to), .val (.int ((B i) &&& (255 : Int32))), .val (.int (4 : Int32)), .val (.int (128 : Int32)), .val (.int (143 : Int32)), .unset, .unset] [(.int (0 : Int32))]))
                  refine Gl.go ?_ (fun t k => XS.istore X0.here hx rfl (hb hby d1_192) rfl (l' := #[.val (.ref a), .val (.int i), .val (.int to), .val (.int ((B i) &&& (255 : Int32))), .val (.int (4 : Int32)), .val (.int (128 : Int32)), .val (.int (143 : Int32)), .val (.int (0 : Int32)), .unset]) rfl k)
                  show Gl _ _ _ _ (s₁.setTop (mkF m 194 #[.val (.ref a), .val (.int i), .val (.int to), .val (.int ((B i) &&& (255 : Int32))), .val (.int (4 : Int32)), .val (.int (128 : Int32)), .val (.int (143 : Int32)), .val (.int (0 : Int32)), .unset] []))
                  refine Gl.go ?_ (fun t k => XS.iconst X0.here hx rfl (hb hby d1_194) k)
                  show Gl _ _ _ _ (s₁.setTop (mkF m 195 #[.val (.ref a), .val (.int i), .val (.int to), .val (.int ((B i) &&& (255 : Int32))), .val (.int (4 : Int32)), .val (.int (128 : Int32)), .val (.int (143 : Int32)), .val (.int (0 : Int32)), .unset] [(.int (2 : Int32))]))
                  refine Gl.go ?_ (fun t k => XS.istore X0.here hx rfl (hb hby d1_195) rfl (l' := #[.val (.ref a), .val (.int i), .val (.int to), .val (.int ((B i) &&& (255 : Int32))), .val (.int (4 : Int32)), .val (.int (128 : Int32)), .val (.int (143 : Int32)), .val (.int (0 : Int32)), .val (.int (2 : Int32))]) rfl k)
                  show Gl _ _ _ _ (s₁.setTop (mkF m 197 #[.val (.ref a), .val (.int i), .val (.int to), .val (.int ((B i) &&& (255 : Int32))), .val (.int (4 : Int32)), .val (.int (128 : Int32)), .val (.int (143 : Int32)), .val (.int (0 : Int32)), .val (.int (2 : Int32))] []))
                  refine Gl.go ?_ (fun t k => XS.iload X0.here hx rfl (hb hby d1_197) rfl k)
                  show Gl _ _ _ _ (s₁.setTop (mkF m 199 #[.val (.ref a), .val (.int i), .val (.int to), .val (.int ((B i) &&& (255 : Int32))), .val (.int (4 : Int32)), .val (.int (128 : Int32)), .val (.int (143 : Int32)), .val (.int (0 : Int32)), .val (.int (2 : Int32))] [(.int (0 : Int32))]))
                  refine Gl.go ?_ (fun t k => XS.ifYes X0.here hx rfl (pc0 := 199) (pc' := 238) rfl (hb hby d1_199) rfl ((if0 _ _).trans (teq (by decide : (0 : Int32) = (0 : Int32))).1) (by decide) (by decide) k)
                  show Gl _ _ _ _ (s₁.setTop (mkF m 238 #[.val (.ref a), .val (.int i), .val (.int to), .val (.int ((B i) &&& (255 : Int32))), .val (.int (4 : Int32)), .val (.int (128 : Int32)), .val (.int (143 : Int32)), .val (.int (0 : Int32)), .val (.int (2 : Int32))] []))
                  refine Gl.go ?_ (fun t k => XS.iload X0.here hx rfl (hb hby d1_238) rfl k)
                  show Gl _ _ _ _ (s₁.setTop (mkF m 240 #[.val (.ref a), .val (.int i), .val (.int to), .val (.int ((B i) &&& (255 : Int32))), .val (.int (4 : Int32)), .val (.int (128 : Int32)), .val (.int (143 : Int32)), .val (.int (0 : Int32)), .val (.int (2 : Int32))] [(.int (0 : Int32))]))
                  refine Gl.go ?_ (fun t k => XS.ifYes X0.here hx rfl (pc0 := 240) (pc' := 250) rfl (hb hby d1_240) rfl ((if0 _ _).trans (teq (by decide : (0 : Int32) = (0 : Int32))).1) (by decide) (by decide) k)
                  show Gl _ _ _ _ (s₁.setTop (mkF m 250 #[.val (.ref a), .val (.int i), .val (.int to), .val (.int ((B i) &&& (255 : Int32))), .val (.int (4 : Int32)), .val (.int (128 : Int32)), .val (.int (143 : Int32)), .val (.int (0 : Int32)), .val (.int (2 : Int32))] []))
                  refine Gl.go ?_ (fun t k => XS.iconst X0.here hx rfl (hb hby d1_250) k)
                  show Gl _ _ _ _ (s₁.setTop (mkF m 251 #[.val (.ref a), .val (.int i), .val (.int to), .val (.int ((B i) &&& (255 : Int32))), .val (.int (4 : Int32)), .val (.int (128 : Int32)), .val (.int (143 : Int32)), .val (.int (0 : Int32)), .val (.int (2 : Int32))] [(.int (-1 : Int32))]))
                  obtain ⟨fs, hr, hrun, hended, hW, hsame⟩ := X0.leave (v := some (.int (-1 : Int32))) (fun h => by rw [Bd.returns] at h; cases h) (BodyLoose.notSynchronized Bd)
                  exact Gl.mk ⟨_, _, retI X0 hx Bd.returns (hb hby d1_251) hr, hrun, hended, _, _, rfl, ⟨congrArg (fun z => some (Value.int z)) ((if_neg hc30).trans ((if_pos hc31).trans ((if_pos hc32).trans ((if_neg hc33).trans ((if_neg hc34).trans ((if_pos hc40).trans ((if_neg hc41).trans ((if_pos hc42).trans (rfl))))))))).symm, rfl, e0⟩, ⟨_, rfl⟩, hW, hsame.mono (by decide) (by decide)⟩
                · refine Gl.go ?_ (fun t k => XS.icmpNo X0.here hx rfl (hb hby d1_170) rfl (flt hc42).1 k)
                  show Gl _ _ _ _ (s₁.setTop (mkF m 173 #[.val (.ref a), .val (.int i), .val (.int to), .val (.int ((B i) &&& (255 : Int32))), .val (.int (4 : Int32)), .val (.int (128 : Int32)), .val (.int (143 : Int32)), .unset, .unset] []))
                  refine Gl.go ?_ (fun t k => XS.aloadN X0.here hx rfl (hb hby d1_173) rfl rfl k)
                  show Gl _ _ _ _ (s₁.setTop (mkF m 174 #[.val (.ref a), .val (.int i), .val (.int to), .val (.int ((B i) &&& (255 : Int32))), .val (.int (4 : Int32)), .val (.int (128 : Int32)), .val (.int (143 : Int32)), .unset, .unset] [(.ref a)]))
                  refine Gl.go ?_ (fun t k => XS.iloadN X0.here hx rfl (hb hby d1_174) rfl k)
                  show Gl _ _ _ _ (s₁.setTop (mkF m 175 #[.val (.ref a), .val (.int i), .val (.int to), .val (.int ((B i) &&& (255 : Int32))), .val (.int (4 : Int32)), .val (.int (128 : Int32)), .val (.int (143 : Int32)), .unset, .unset] [(.int i), (.ref a)]))
                  refine Gl.go ?_ (fun t k => XS.iconst X0.here hx rfl (hb hby d1_175) k)
                  show Gl _ _ _ _ (s₁.setTop (mkF m 176 #[.val (.ref a), .val (.int i), .val (.int to), .val (.int ((B i) &&& (255 : Int32))), .val (.int (4 : Int32)), .val (.int (128 : Int32)), .val (.int (143 : Int32)), .unset, .unset] [(.int (1 : Int32)), (.int i), (.ref a)]))
                  refine Gl.go ?_ (fun t k => XS.iadd X0.here hx rfl (hb hby d1_176) rfl k)
                  show Gl _ _ _ _ (s₁.setTop (mkF m 177 #[.val (.ref a), .val (.int i), .val (.int to), .val (.int ((B i) &&& (255 : Int32))), .val (.int (4 : Int32)), .val (.int (128 : Int32)), .val (.int (143 : Int32)), .unset, .unset] [(.int (i + (1 : Int32))), (.ref a)]))
                  refine Gl.go ?_ (BA.rdB hB X0 hx hZ e0 hi1.1 hi1.2 (g := (mkF m 177 #[.val (.ref a), .val (.int i), .val (.int to), .val (.int ((B i) &&& (255 : Int32))), .val (.int (4 : Int32)), .val (.int (128 : Int32)), .val (.int (143 : Int32)), .unset, .unset] [(.int (i + (1 : Int32))), (.ref a)])) rfl rfl (hb hby d1_177))
                  show Gl _ _ _ _ (s₁.setTop (mkF m 178 #[.val (.ref a), .val (.int i), .val (.int to), .val (.int ((B i) &&& (255 : Int32))), .val (.int (4 : Int32)), .val (.int (128 : Int32)), .val (.int (143 : Int32)), .unset, .unset] [(.int (B (i + (1 : Int32))))]))
                  refine Gl.go ?_ (fun t k => XS.sipush X0.here hx rfl (hb hby d1_178) k)
                  show Gl _ _ _ _ (s₁.setTop (mkF m 181 #[.val (.ref a), .val (.int i), .val (.int to), .val (.int ((B i) &&& (255 : Int32))), .val (.int (4 : Int32)), .val (.int (128 : Int32)), .val (.int (143 : Int32)), .unset, .unset] [(.int (255 : Int32)), (.int (B (i + (1 : Int32))))]))
                  refine Gl.go ?_ (fun t k => XS.iand X0.here hx rfl (hb hby d1_181) rfl k)
                  show Gl _ _ _ _ (s₁.setTop (mkF m 182 #[.val (.ref a), .val (.int i), .val (.int to), .val (.int ((B i) &&& (255 : Int32))), .val (.int (4 : Int32)), .val (.int (128 : Int32)), .val (.int (143 : Int32)), .unset, .unset] [(.int ((B (i + (1 : Int32))) &&& (255 : Int32)))]))
                  refine Gl.go ?_ (fun t k => XS.iload X0.here hx rfl (hb hby d1_182) rfl k)
                  show Gl _ _ _ _ (s₁.setTop (mkF m 184 #[.val (.ref a), .val (.int i), .val (.int to), .val (.int ((B i) &&& (255 : Int32))), .val (.int (4 : Int32)), .val (.int (128 : Int32)), .val (.int (143 : Int32)), .unset, .unset] [(.int (143 : Int32)), (.int ((B (i + (1 : Int32))) &&& (255 : Int32)))]))
                  by_cases hc43 : (143 : Int32) < ((B (i + (1 : Int32))) &&& (255 : Int32))
                  · refine Gl.go ?_ (fun t k => XS.icmpYes X0.here hx rfl (pc0 := 184) (pc' := 191) rfl (hb hby d1_184) rfl (tlt hc43).2.2.1 (by decide) (by decide) k)
                    show Gl _ _ _ _ (s₁.setTop (mkF m 191 #[.val (.ref a), .val (.int i), .val (.int to), .val (.int ((B i) &&& (255 : Int32))), .val (.int (4 : Int32)), .val (.int (128 : Int32)), .val (.int (143 : Int32)), .unset, .unset] []))
                    refine Gl.go ?_ (fun t k => XS.iconst X0.here hx rfl (hb hby d1_191) k)
                    show Gl _ _ _ _ (s₁.setTop (mkF m 192 #[.val (.ref a), .val (.int i), .val (.int to), .val (.int ((B i) &&& (255 : Int32))), .val (.int (4 : Int32)), .val (.int (128 : Int32)), .val (.int (143 : Int32)), .unset, .unset] [(.int (0 : Int32))]))
                    refine Gl.go ?_ (fun t k => XS.istore X0.here hx rfl (hb hby d1_192) rfl (l' := #[.val (.ref a), .val (.int i), .val (.int to), .val (.int ((B i) &&& (255 : Int32))), .val (.int (4 : Int32)), .val (.int (128 : Int32)), .val (.int (143 : Int32)), .val (.int (0 : Int32)), .unset]) rfl k)
                    show Gl _ _ _ _ (s₁.setTop (mkF m 194 #[.val (.ref a), .val (.int i), .val (.int to), .val (.int ((B i) &&& (255 : Int32))), .val (.int (4 : Int32)), .val (.int (128 : Int32)), .val (.int (143 : Int32)), .val (.int (0 : Int32)), .unset] []))
                    refine Gl.go ?_ (fun t k => XS.iconst X0.here hx rfl (hb hby d1_194) k)
                    show Gl _ _ _ _ (s₁.setTop (mkF m 195 #[.val (.ref a), .val (.int i), .val (.int to), .val (.int ((B i) &&& (255 : Int32))), .val (.int (4 : Int32)), .val (.int (128 : Int32)), .val (.int (143 : Int32)), .val (.int (0 : Int32)), .unset] [(.int (2 : Int32))]))
                    refine Gl.go ?_ (fun t k => XS.istore X0.here hx rfl (hb hby d1_195) rfl (l' := #[.val (.ref a), .val (.int i), .val (.int to), .val (.int ((B i) &&& (255 : Int32))), .val (.int (4 : Int32)), .val (.int (128 : Int32)), .val (.int (143 : Int32)), .val (.int (0 : Int32)), .val (.int (2 : Int32))]) rfl k)
                    show Gl _ _ _ _ (s₁.setTop (mkF m 197 #[.val (.ref a), .val (.int i), .val (.int to), .val (.int ((B i) &&& (255 : Int32))), .val (.int (4 : Int32)), .val (.int (128 : Int32)), .val (.int (143 : Int32)), .val (.int (0 : Int32)), .val (.int (2 : Int32))] []))
                    refine Gl.go ?_ (fun t k => XS.iload X0.here hx rfl (hb hby d1_197) rfl k)
                    show Gl _ _ _ _ (s₁.setTop (mkF m 199 #[.val (.ref a), .val (.int i), .val (.int to), .val (.int ((B i) &&& (255 : Int32))), .val (.int (4 : Int32)), .val (.int (128 : Int32)), .val (.int (143 : Int32)), .val (.int (0 : Int32)), .val (.int (2 : Int32))] [(.int (0 : Int32))]))
                    refine Gl.go ?_ (fun t k => XS.ifYes X0.here hx rfl (pc0 := 199) (pc' := 238) rfl (hb hby d1_199) rfl ((if0 _ _).trans (teq (by decide : (0 : Int32) = (0 : Int32))).1) (by decide) (by decide) k)
                    show Gl _ _ _ _ (s₁.setTop (mkF m 238 #[.val (.ref a), .val (.int i), .val (.int to), .val (.int ((B i) &&& (255 : Int32))), .val (.int (4 : Int32)), .val (.int (128 : Int32)), .val (.int (143 : Int32)), .val (.int (0 : Int32)), .val (.int (2 : Int32))] []))
                    refine Gl.go ?_ (fun t k => XS.iload X0.here hx rfl (hb hby d1_238) rfl k)
                    show Gl _ _ _ _ (s₁.setTop (mkF m 240 #[.val (.ref a), .val (.int i), .val (.int to), .val (.int ((B i) &&& (255 : Int32))), .val (.int (4 : Int32)), .val (.int (128 : Int32)), .val (.int (143 : Int32)), .val (.int (0 : Int32)), .val (.int (2 : Int32))] [(.int (0 : Int32))]))
                    refine Gl.go ?_ (fun t k => XS.ifYes X0.here hx rfl (pc0 := 240) (pc' := 250) rfl (hb hby d1_240) rfl ((if0 _ _).trans (teq (by decide : (0 : Int32) = (0 : Int32))).1) (by decide) (by decide) k)
                    show Gl _ _ _ _ (s₁.setTop (mkF m 250 #[.val (.ref a), .val (.int i), .val (.int to), .val (.int ((B i) &&& (255 : Int32))), .val (.int (4 : Int32)), .val (.int (128 : Int32)), .val (.int (143 : Int32)), .val (.int (0 : Int32)), .val (.int (2 : Int32))] []))
                    refine Gl.go ?_ (fun t k => XS.iconst X0.here hx rfl (hb hby d1_250) k)
                    show Gl _ _ _ _ (s₁.setTop (mkF m 251 #[.val (.ref a), .val (.int i), .val (.int to), .val (.int ((B i) &&& (255 : Int32))), .val (.int (4 : Int32)), .val (.int (128 : Int32)), .val (.int (143 : Int32)), .val (.int (0 : Int32)), .val (.int (2 : Int32))] [(.int (-1 : Int32))]))
                    obtain ⟨fs, hr, hrun, hended, hW, hsame⟩ := X0.leave (v := some (.int (-1 : Int32))) (fun h => by rw [Bd.returns] at h; cases h) (BodyLoose.notSynchronized Bd)
                    exact Gl.mk ⟨_, _, retI X0 hx Bd.returns (hb hby d1_251) hr, hrun, hended, _, _, rfl, ⟨congrArg (fun z => some (Value.int z)) ((if_neg hc30).trans ((if_pos hc31).trans ((if_pos hc32).trans ((if_neg hc33).trans ((if_neg hc34).trans ((if_pos hc40).trans ((if_neg hc41).trans ((if_neg hc42).trans ((if_pos hc43).trans (rfl)))))))))).symm, rfl, e0⟩, ⟨_, rfl⟩, hW, hsame.mono (by decide) (by decide)⟩
                  · refine Gl.go ?_ (fun t k => XS.icmpNo X0.here hx rfl (hb hby d1_184) rfl (flt hc43).2.2.1 k)
                    show Gl _ _ _ _ (s₁.setTop (mkF m 187 #[.val (.ref a), .val (.int i), .val (.int to), .val (.int ((B i) &&& (255 : Int32))), .val (.int (4 : Int32)), .val (.int (128 : Int32)), .val (.int (143 : Int32)), .unset, .unset] []))
                    refine Gl.go ?_ (fun t k => XS.iconst X0.here hx rfl (hb hby d1_187) k)
                    show Gl _ _ _ _ (s₁.setTop (mkF m 188 #[.val (.ref a), .val (.int i), .val (.int to), .val (.int ((B i) &&& (255 : Int32))), .val (.int (4 : Int32)), .val (.int (128 : Int32)), .val (.int (143 : Int32)), .unset, .unset] [(.int (1 : Int32))]))
                    refine Gl.go ?_ (fun t k => XS.goto X0.here hx rfl (pc0 := 188) (pc' := 192) rfl (hb hby d1_188) (by decide) (by decide) k)
                    show Gl _ _ _ _ (s₁.setTop (mkF m 192 #[.val (.ref a), .val (.int i), .val (.int to), .val (.int ((B i) &&& (255 : Int32))), .val (.int (4 : Int32)), .val (.int (128 : Int32)), .val (.int (143 : Int32)), .unset, .unset] [(.int (1 : Int32))]))
                    refine Gl.go ?_ (fun t k => XS.istore X0.here hx rfl (hb hby d1_192) rfl (l' := #[.val (.ref a), .val (.int i), .val (.int to), .val (.int ((B i) &&& (255 : Int32))), .val (.int (4 : Int32)), .val (.int (128 : Int32)), .val (.int (143 : Int32)), .val (.int (1 : Int32)), .unset]) rfl k)
                    show Gl _ _ _ _ (s₁.setTop (mkF m 194 #[.val (.ref a), .val (.int i), .val (.int to), .val (.int ((B i) &&& (255 : Int32))), .val (.int (4 : Int32)), .val (.int (128 : Int32)), .val (.int (143 : Int32)), .val (.int (1 : Int32)), .unset] []))
                    refine Gl.go ?_ (fun t k => XS.iconst X0.here hx rfl (hb hby d1_194) k)
                    show Gl _ _ _ _ (s₁.setTop (mkF m 195 #[.val (.ref a), .val (.int i), .val (.int to), .val (.int ((B i) &&& (255 : Int32))), .val (.int (4 : Int32)), .val (.int (128 : Int32)), .val (.int (143 : Int32)), .val (.int (1 : Int32)), .unset] [(.int (2 : Int32))]))
                    refine Gl.go ?_ (fun t k => XS.istore X0.here hx rfl (hb hby d1_195) rfl (l' := #[.val (.ref a), .val (.int i), .val (.int to), .val (.int ((B i) &&& (255 : Int32))), .val (.int (4 : Int32)), .val (.int (128 : Int32)), .val (.int (143 : Int32)), .val (.int (1 : Int32)), .val (.int (2 : Int32))]) rfl k)
                    show Gl _ _ _ _ (s₁.setTop (mkF m 197 #[.val (.ref a), .val (.int i), .val (.int to), .val (.int ((B i) &&& (255 : Int32))), .val (.int (4 : Int32)), .val (.int (128 : Int32)), .val (.int (143 : Int32)), .val (.int (1 : Int32)), .val (.int (2 : Int32))] []))
                    refine Gl.go ?_ (fun t k => XS.iload X0.here hx rfl (hb hby d1_197) rfl k)
                    show Gl _ _ _ _ (s₁.setTop (mkF m 199 #[.val (.ref a), .val (.int i), .val (.int to), .val (.int ((B i) &&& (255 : Int32))), .val (.int (4 : Int32)), .val (.int (128 : Int32)), .val (.int (143 : Int32)), .val (.int (1 : Int32)), .val (.int (2 : Int32))] [(.int (1 : Int32))]))
                    refine Gl.go ?_ (fun t k => XS.ifNo X0.here hx rfl (hb hby d1_199) rfl ((if0 _ _).trans (feq (by decide : ¬ ((1 : Int32) = (0 : Int32)))).1) k)
                    show Gl _ _ _ _ (s₁.setTop (mkF m 202 #[.val (.ref a), .val (.int i), .val (.int to), .val (.int ((B i) &&& (255 : Int32))), .val (.int (4 : Int32)), .val (.int (128 : Int32)), .val (.int (143 : Int32)), .val (.int (1 : Int32)), .val (.int (2 : Int32))] []))
                    refine Gl.go ?_ (fun t k => XS.iload X0.here hx rfl (hb hby d1_202) rfl k)
                    show Gl _ _ _ _ (s₁.setTop (mkF m 204 #[.val (.ref a), .val (.int i), .val (.int to), .val (.int ((B i) &&& (255 : Int32))), .val (.int (4 : Int32)), .val (.int (128 : Int32)), .val (.int (143 : Int32)), .val (.int (1 : Int32)), .val (.int (2 : Int32))] [(.int (2 : Int32))]))
                    refine Gl.go ?_ (fun t k => XS.iload X0.here hx rfl (hb hby d1_204) rfl k)
                    show Gl _ _ _ _ (s₁.setTop (mkF m 206 #[.val (.ref a), .val (.int i), .val (.int to), .val (.int ((B i) &&& (255 : Int32))), .val (.int (4 : Int32)), .val (.int (128 : Int32)), .val (.int (143 : Int32)), .val (.int (1 : Int32)), .val (.int (2 : Int32))] [(.int (4 : Int32)), (.int (2 : Int32))]))
                    refine Gl.go ?_ (fun t k => XS.icmpNo X0.here hx rfl (hb hby d1_206) rfl (tlt (by decide : (2 : Int32) < (4 : Int32))).2.1 k)
                    show Gl _ _ _ _ (s₁.setTop (mkF m 209 #[.val (.ref a), .val (.int i), .val (.int to), .val (.int ((B i) &&& (255 : Int32))), .val (.int (4 : Int32)), .val (.int (128 : Int32)), .val (.int (143 : Int32)), .val (.int (1 : Int32)), .val (.int (2 : Int32))] []))
                    refine Gl.go ?_ (fun t k => XS.aloadN X0.here hx rfl (hb hby d1_209) rfl rfl k)
                    show Gl _ _ _ _ (s₁.setTop (mkF m 210 #[.val (.ref a), .val (.int i), .val (.int to), .val (.int ((B i) &&& (255 : Int32))), .val (.int (4 : Int32)), .val (.int (128 : Int32)), .val (.int (143 : Int32)), .val (.int (1 : Int32)), .val (.int (2 : Int32))] [(.ref a)]))
                    refine Gl.go ?_ (fun t k => XS.iloadN X0.here hx rfl (hb hby d1_210) rfl k)
                    show Gl _ _ _ _ (s₁.setTop (mkF m 211 #[.val (.ref a), .val (.int i), .val (.int to), .val (.int ((B i) &&& (255 : Int32))), .val (.int (4 : Int32)), .val (.int (128 : Int32)), .val (.int (143 : Int32)), .val (.int (1 : Int32)), .val (.int (2 : Int32))] [(.int i), (.ref a)]))
                    refine Gl.go ?_ (fun t k => XS.iload X0.here hx rfl (hb hby d1_211) rfl k)
                    show Gl _ _ _ _ (s₁.setTop (mkF m 213 #[.val (.ref a), .val (.int i), .val (.int to), .val (.int ((B i) &&& (255 : Int32))), .val (.int (4 : Int32)), .val (.int (128 : Int32)), .val (.int (143 : Int32)), .val (.int (1 : Int32)), .val (.int (2 : Int32))] [(.int (2 : Int32)), (.int i), (.ref a)]))
                    refine Gl.go ?_ (fun t k => XS.iadd X0.here hx rfl (hb hby d1_213) rfl k)
                    show Gl _ _ _ _ (s₁.setTop (mkF m 214 #[.val (.ref a), .val (.int i), .val (.int to), .val (.int ((B i) &&& (255 : Int32))), .val (.int (4 : Int32)), .val (.int (128 : Int32)), .val (.int (143 : Int32)), .val (.int (1 : Int32)), .val (.int (2 : Int32))] [(.int (i + (2 : Int32))), (.ref a)]))
                    refine Gl.go ?_ (BA.rdB hB X0 hx hZ e0 hi2.1 hi2.2 (g := (mkF m 214 #[.val (.ref a), .val (.int i), .val (.int to), .val (.int ((B i) &&& (255 : Int32))), .val (.int (4 : Int32)), .val (.int (128 : Int32)), .val (.int (143 : Int32)), .val (.int (1 : Int32)), .val (.int (2 : Int32))] [(.int (i + (2 : Int32))), (.ref a)])) rfl rfl (hb hby d1_214))
                    show Gl _ _ _ _ (s₁.setTop (mkF m 215 #[.val (.ref a), .val (.int i), .val (.int to), .val (.int ((B i) &&& (255 : Int32))), .val (.int (4 : Int32)), .val (.int (128 : Int32)), .val (.int (143 : Int32)), .val (.int (1 : Int32)), .val (.int (2 : Int32))] [(.int (B (i + (2 : Int32))))]))
                    refine Gl.go ?_ (fun t k => XS.sipush X0.here hx rfl (hb hby d1_215) k)
                    show Gl _ _ _ _ (s₁.setTop (mkF m 218 #[.val (.ref a), .val (.int i), .val (.int to), .val (.int ((B i) &&& (255 : Int32))), .val (.int (4 : Int32)), .val (.int (128 : Int32)), .val (.int (143 : Int32)), .val (.int (1 : Int32)), .val (.int (2 : Int32))] [(.int (192 : Int32)), (.int (B (i + (2 : Int32))))]))
                    refine Gl.go ?_ (fun t k => XS.iand X0.here hx rfl (hb hby d1_218) rfl k)
                    show Gl _ _ _ _ (s₁.setTop (mkF m 219 #[.val (.ref a), .val (.int i), .val (.int to), .val (.int ((B i) &&& (255 : Int32))), .val (.int (4 : Int32)), .val (.int (128 : Int32)), .val (.int (143 : Int32)), .val (.int (1 : Int32)), .val (.int (2 : Int32))] [(.int ((B (i + (2 : Int32))) &&& (192 : Int32)))]))
                    refine Gl.go ?_ (fun t k => XS.sipush X0.here hx rfl (hb hby d1_219) k)
                    show Gl _ _ _ _ (s₁.setTop (mkF m 222 #[.val (.ref a), .val (.int i), .val (.int to), .val (.int ((B i) &&& (255 : Int32))), .val (.int (4 : Int32)), .val (.int (128 : Int32)), .val (.int (143 : Int32)), .val (.int (1 : Int32)), .val (.int (2 : Int32))] [(.int (128 : Int32)), (.int ((B (i + (2 : Int32))) &&& (192 : Int32)))]))
                    by_cases hc44 : ((B (i + (2 : Int32))) &&& (192 : Int32)) = (128 : Int32)
                    · refine Gl.go ?_ (fun t k => XS.icmpNo X0.here hx rfl (hb hby d1_222) rfl (teq hc44).2 k)
                      show Gl _ _ _ _ (s₁.setTop (mkF m 225 #[.val (.ref a), .val (.int i), .val (.int to), .val (.int ((B i) &&& (255 : Int32))), .val (.int (4 : Int32)), .val (.int (128 : Int32)), .val (.int (143 : Int32)), .val (.int (1 : Int32)), .val (.int (2 : Int32))] []))
                      refine Gl.go ?_ (fun t k => XS.iconst X0.here hx rfl (hb hby d1_225) k)
                      show Gl _ _ _ _ (s₁.setTop (mkF m 226 #[.val (.ref a), .val (.int i), .val (.int to), .val (.int ((B i) &&& (255 : Int32))), .val (.int (4 : Int32)), .val (.int (128 : Int32)), .val (.int (143 : Int32)), .val (.int (1 : Int32)), .val (.int (2 : Int32))] [(.int (1 : Int32))]))
                      refine Gl.go ?_ (fun t k => XS.goto X0.here hx rfl (pc0 := 226) (pc' := 230) rfl (hb hby d1_226) (by decide) (by decide) k)
                      show Gl _ _ _ _ (s₁.setTop (mkF m 230 #[.val (.ref a), .val (.int i), .val (.int to), .val (.int ((B i) &&& (255 : Int32))), .val (.int (4 : Int32)), .val (.int (128 : Int32)), .val (.int (143 : Int32)), .val (.int (1 : Int32)), .val (.int (2 : Int32))] [(.int (1 : Int32))]))
                      refine Gl.go ?_ (fun t k => XS.istore X0.here hx rfl (hb hby d1_230) rfl (l' := #[.val (.ref a), .val (.int i), .val (.int to), .val (.int ((B i) &&& (255 : Int32))), .val (.int (4 : Int32)), .val (.int (128 : Int32)), .val (.int (143 : Int32)), .val (.int (1 : Int32)), .val (.int (2 : Int32))]) rfl k)
                      show Gl _ _ _ _ (s₁.setTop (mkF m 232 #[.val (.ref a), .val (.int i), .val (.int to), .val (.int ((B i) &&& (255 : Int32))), .val (.int (4 : Int32)), .val (.int (128 : Int32)), .val (.int (143 : Int32)), .val (.int (1 : Int32)), .val (.int (2 : Int32))] []))
                      refine Gl.go ?_ (fun t k => XS.iinc X0.here hx rfl (hb hby d1_232) rfl (l' := #[.val (.ref a), .val (.int i), .val (.int to), .val (.int ((B i) &&& (255 : Int32))), .val (.int (4 : Int32)), .val (.int (128 : Int32)), .val (.int (143 : Int32)), .val (.int (1 : Int32)), .val (.int (3 : Int32))]) rfl k)
                      show Gl _ _ _ _ (s₁.setTop (mkF m 235 #[.val (.ref a), .val (.int i), .val (.int to), .val (.int ((B i) &&& (255 : Int32))), .val (.int (4 : Int32)), .val (.int (128 : Int32)), .val (.int (143 : Int32)), .val (.int (1 : Int32)), .val (.int (3 : Int32))] []))
                      refine Gl.go ?_ (fun t k => XS.goto X0.here hx rfl (pc0 := 235) (pc' := 197) rfl (hb hby d1_235) (by decide) (by decide) k)
                      show Gl _ _ _ _ (s₁.setTop (mkF m 197 #[.val (.ref a), .val (.int i), .val (.int to), .val (.int ((B i) &&& (255 : Int32))), .val (.int (4 : Int32)), .val (.int (128 : Int32)), .val (.int (143 : Int32)), .val (.int (1 : Int32)), .val (.int (3 : Int32))] []))
                      refine Gl.go ?_ (fun t k => XS.iload X0.here hx rfl (hb hby d1_197) rfl k)
                      show Gl _ _ _ _ (s₁.setTop (mkF m 199 #[.val (.ref a), .val (.int i), .val (.int to), .val (.int ((B i) &&& (255 : Int32))), .val (.int (4 : Int32)), .val (.int (128 : Int32)), .val (.int (143 : Int32)), .val (.int (1 : Int32)), .val (.int (3 : Int32))] [(.int (1 : Int32))]))
                      refine Gl.go ?_ (fun t k => XS.ifNo X0.here hx rfl (hb hby d1_199) rfl ((if0 _ _).trans (feq (by decide : ¬ ((1 : Int32) = (0 : Int32)))).1) k)
                      show Gl _ _ _ _ (s₁.setTop (mkF m 202 #[.val (.ref a), .val (.int i), .val (.int to), .val (.int ((B i) &&& (255 : Int32))), .val (.int (4 : Int32)), .val (.int (128 : Int32)), .val (.int (143 : Int32)), .val (.int (1 : Int32)), .val (.int (3 : Int32))] []))
                      refine Gl.go ?_ (fun t k => XS.iload X0.here hx rfl (hb hby d1_202) rfl k)
                      show Gl _ _ _ _ (s₁.setTop (mkF m 204 #[.val (.ref a), .val (.int i), .val (.int to), .val (.int ((B i) &&& (255 : Int32))), .val (.int (4 : Int32)), .val (.int (128 : Int32)), .val (.int (143 : Int32)), .val (.int (1 : Int32)), .val (.int (3 : Int32))] [(.int (3 : Int32))]))
                      refine Gl.go ?_ (fun t k => XS.iload X0.here hx rfl (hb hby d1_204) rfl k)
                      show Gl _ _ _ _ (s₁.setTop (mkF m 206 #[.val (.ref a), .val (.int i), .val (.int to), .val (.int ((B i) &&& (255 : Int32))), .val (.int (4 : Int32)), .val (.int (128 : Int32)), .val (.int (143 : Int32)), .val (.int (1 : Int32)), .val (.int (3 : Int32))] [(.int (4 : Int32)), (.int (3 : Int32))]))
                      refine Gl.go ?_ (fun t k => XS.icmpNo X0.here hx rfl (hb hby d1_206) rfl (tlt (by decide : (3 : Int32) < (4 : Int32))).2.1 k)
                      show Gl _ _ _ _ (s₁.setTop (mkF m 209 #[.val (.ref a), .val (.int i), .val (.int to), .val (.int ((B i) &&& (255 : Int32))), .val (.int (4 : Int32)), .val (.int (128 : Int32)), .val (.int (143 : Int32)), .val (.int (1 : Int32)), .val (.int (3 : Int32))] []))
                      refine Gl.go ?_ (fun t k => XS.aloadN X0.here hx rfl (hb hby d1_209) rfl rfl k)
                      show Gl _ _ _ _ (s₁.setTop (mkF m 210 #[.val (.ref a), .val (.int i), .val (.int to), .val (.int ((B i) &&& (255 : Int32))), .val (.int (4 : Int32)), .val (.int (128 : Int32)), .val (.int (143 : Int32)), .val (.int (1 : Int32)), .val (.int (3 : Int32))] [(.ref a)]))
                      refine Gl.go ?_ (fun t k => XS.iloadN X0.here hx rfl (hb hby d1_210) rfl k)
                      show Gl _ _ _ _ (s₁.setTop (mkF m 211 #[.val (.ref a), .val (.int i), .val (.int to), .val (.int ((B i) &&& (255 : Int32))), .val (.int (4 : Int32)), .val (.int (128 : Int32)), .val (.int (143 : Int32)), .val (.int (1 : Int32)), .val (.int (3 : Int32))] [(.int i), (.ref a)]))
                      refine Gl.go ?_ (fun t k => XS.iload X0.here hx rfl (hb hby d1_211) rfl k)
                      show Gl _ _ _ _ (s₁.setTop (mkF m 213 #[.val (.ref a), .val (.int i), .val (.int to), .val (.int ((B i) &&& (255 : Int32))), .val (.int (4 : Int32)), .val (.int (128 : Int32)), .val (.int (143 : Int32)), .val (.int (1 : Int32)), .val (.int (3 : Int32))] [(.int (3 : Int32)), (.int i), (.ref a)]))
                      refine Gl.go ?_ (fun t k => XS.iadd X0.here hx rfl (hb hby d1_213) rfl k)
                      show Gl _ _ _ _ (s₁.setTop (mkF m 214 #[.val (.ref a), .val (.int i), .val (.int to), .val (.int ((B i) &&& (255 : Int32))), .val (.int (4 : Int32)), .val (.int (128 : Int32)), .val (.int (143 : Int32)), .val (.int (1 : Int32)), .val (.int (3 : Int32))] [(.int (i + (3 : Int32))), (.ref a)]))
                      refine Gl.go ?_ (BA.rdB hB X0 hx hZ e0 hi3.1 hi3.2 (g := (mkF m 214 #[.val (.ref a), .val (.int i), .val (.int to), .val (.int ((B i) &&& (255 : Int32))), .val (.int (4 : Int32)), .val (.int (128 : Int32)), .val (.int (143 : Int32)), .val (.int (1 : Int32)), .val (.int (3 : Int32))] [(.int (i + (3 : Int32))), (.ref a)])) rfl rfl (hb hby d1_214))
                      show Gl _ _ _ _ (s₁.setTop (mkF m 215 #[.val (.ref a), .val (.int i), .val (.int to), .val (.int ((B i) &&& (255 : Int32))), .val (.int (4 : Int32)), .val (.int (128 : Int32)), .val (.int (143 : Int32)), .val (.int (1 : Int32)), .val (.int (3 : Int32))] [(.int (B (i + (3 : Int32))))]))
                      refine Gl.go ?_ (fun t k => XS.sipush X0.here hx rfl (hb hby d1_215) k)
                      show Gl _ _ _ _ (s₁.setTop (mkF m 218 #[.val (.ref a), .val (.int i), .val (.int to), .val (.int ((B i) &&& (255 : Int32))), .val (.int (4 : Int32)), .val (.int (128 : Int32)), .val (.int (143 : Int32)), .val (.int (1 : Int32)), .val (.int (3 : Int32))] [(.int (192 : Int32)), (.int (B (i + (3 : Int32))))]))
                      refine Gl.go ?_ (fun t k => XS.iand X0.here hx rfl (hb hby d1_218) rfl k)
                      show Gl _ _ _ _ (s₁.setTop (mkF m 219 #[.val (.ref a), .val (.int i), .val (.int to), .val (.int ((B i) &&& (255 : Int32))), .val (.int (4 : Int32)), .val (.int (128 : Int32)), .val (.int (143 : Int32)), .val (.int (1 : Int32)), .val (.int (3 : Int32))] [(.int ((B (i + (3 : Int32))) &&& (192 : Int32)))]))
                      refine Gl.go ?_ (fun t k => XS.sipush X0.here hx rfl (hb hby d1_219) k)
                      show Gl _ _ _ _ (s₁.setTop (mkF m 222 #[.val (.ref a), .val (.int i), .val (.int to), .val (.int ((B i) &&& (255 : Int32))), .val (.int (4 : Int32)), .val (.int (128 : Int32)), .val (.int (143 : Int32)), .val (.int (1 : Int32)), .val (.int (3 : Int32))] [(.int (128 : Int32)), (.int ((B (i + (3 : Int32))) &&& (192 : Int32)))]))
                      by_cases hc45 : ((B (i + (3 : Int32))) &&& (192 : Int32)) = (128 : Int32)
                      · refine Gl.go ?_ (fun t k => XS.icmpNo X0.here hx rfl (hb hby d1_222) rfl (teq hc45).2 k)
                        show Gl _ _ _ _ (s₁.setTop (mkF m 225 #[.val (.ref a), .val (.int i), .val (.int to), .val (.int ((B i) &&& (255 : Int32))), .val (.int (4 : Int32)), .val (.int (128 : Int32)), .val (.int (143 : Int32)), .val (.int (1 : Int32)), .val (.int (3 : Int32))] []))
                        refine Gl.go ?_ (fun t k => XS.iconst X0.here hx rfl (hb hby d1_225) k)
                        show Gl _ _ _ _ (s₁.setTop (mkF m 226 #[.val (.ref a), .val (.int i), .val (.int to), .val (.int ((B i) &&& (255 : Int32))), .val (.int (4 : Int32)), .val (.int (128 : Int32)), .val (.int (143 : Int32)), .val (.int (1 : Int32)), .val (.int (3 : Int32))] [(.int (1 : Int32))]))
                        refine Gl.go ?_ (fun t k => XS.goto X0.here hx rfl (pc0 := 226) (pc' := 230) rfl (hb hby d1_226) (by decide) (by decide) k)
                        show Gl _ _ _ _ (s₁.setTop (mkF m 230 #[.val (.ref a), .val (.int i), .val (.int to), .val (.int ((B i) &&& (255 : Int32))), .val (.int (4 : Int32)), .val (.int (128 : Int32)), .val (.int (143 : Int32)), .val (.int (1 : Int32)), .val (.int (3 : Int32))] [(.int (1 : Int32))]))
                        refine Gl.go ?_ (fun t k => XS.istore X0.here hx rfl (hb hby d1_230) rfl (l' := #[.val (.ref a), .val (.int i), .val (.int to), .val (.int ((B i) &&& (255 : Int32))), .val (.int (4 : Int32)), .val (.int (128 : Int32)), .val (.int (143 : Int32)), .val (.int (1 : Int32)), .val (.int (3 : Int32))]) rfl k)
                        show Gl _ _ _ _ (s₁.setTop (mkF m 232 #[.val (.ref a), .val (.int i), .val (.int to), .val (.int ((B i) &&& (255 : Int32))), .val (.int (4 : Int32)), .val (.int (128 : Int32)), .val (.int (143 : Int32)), .val (.int (1 : Int32)), .val (.int (3 : Int32))] []))
                        refine Gl.go ?_ (fun t k => XS.iinc X0.here hx rfl (hb hby d1_232) rfl (l' := #[.val (.ref a), .val (.int i), .val (.int to), .val (.int ((B i) &&& (255 : Int32))), .val (.int (4 : Int32)), .val (.int (128 : Int32)), .val (.int (143 : Int32)), .val (.int (1 : Int32)), .val (.int (4 : Int32))]) rfl k)
                        show Gl _ _ _ _ (s₁.setTop (mkF m 235 #[.val (.ref a), .val (.int i), .val (.int to), .val (.int ((B i) &&& (255 : Int32))), .val (.int (4 : Int32)), .val (.int (128 : Int32)), .val (.int (143 : Int32)), .val (.int (1 : Int32)), .val (.int (4 : Int32))] []))
                        refine Gl.go ?_ (fun t k => XS.goto X0.here hx rfl (pc0 := 235) (pc' := 197) rfl (hb hby d1_235) (by decide) (by decide) k)
                        show Gl _ _ _ _ (s₁.setTop (mkF m 197 #[.val (.ref a), .val (.int i), .val (.int to), .val (.int ((B i) &&& (255 : Int32))), .val (.int (4 : Int32)), .val (.int (128 : Int32)), .val (.int (143 : Int32)), .val (.int (1 : Int32)), .val (.int (4 : Int32))] []))
                        refine Gl.go ?_ (fun t k => XS.iload X0.here hx rfl (hb hby d1_197) rfl k)
                        show Gl _ _ _ _ (s₁.setTop (mkF m 199 #[.val (.ref a), .val (.int i), .val (.int to), .val (.int ((B i) &&& (255 : Int32))), .val (.int (4 : Int32)), .val (.int (128 : Int32)), .val (.int (143 : Int32)), .val (.int (1 : Int32)), .val (.int (4 : Int32))] [(.int (1 : Int32))]))
                        refine Gl.go ?_ (fun t k => XS.ifNo X0.here hx rfl (hb hby d1_199) rfl ((if0 _ _).trans (feq (by decide : ¬ ((1 : Int32) = (0 : Int32)))).1) k)
                        show Gl _ _ _ _ (s₁.setTop (mkF m 202 #[.val (.ref a), .val (.int i), .val (.int to), .val (.int ((B i) &&& (255 : Int32))), .val (.int (4 : Int32)), .val (.int (128 : Int32)), .val (.int (143 : Int32)), .val (.int (1 : Int32)), .val (.int (4 : Int32))] []))
                        refine Gl.go ?_ (fun t k => XS.iload X0.here hx rfl (hb hby d1_202) rfl k)
                        show Gl _ _ _ _ (s₁.setTop (mkF m 204 #[.val (.ref a), .val (.int i), .val (.int to), .val (.int ((B i) &&& (255 : Int32))), .val (.int (4 : Int32)), .val (.int (128 : Int32)), .val (.int (143 : Int32)), .val (.int (1 : Int32)), .val (.int (4 : Int32))] [(.int (4 : Int32))]))
                        refine Gl.go ?_ (fun t k => XS.iload X0.here hx rfl (hb hby d1_204) rfl k)
                        show Gl _ _ _ _ (s₁.setTop (mkF m 206 #[.val (.ref a), .val (.int i), .val (.int to), .val (.int ((B i) &&& (255 : Int32))), .val (.int (4 : Int32)), .val (.int (128 : Int32)), .val (.int (143 : Int32)), .val (.int (1 : Int32)), .val (.int (4 : Int32))] [(.int (4 : Int32)), (.int (4 : Int32))]))
                        refine Gl.go ?_ (fun t k => XS.icmpYes X0.here hx rfl (pc0 := 206) (pc' := 238) rfl (hb hby d1_206) rfl (flt (by decide : ¬ ((4 : Int32) < (4 : Int32)))).2.1 (by decide) (by decide) k)
                        show Gl _ _ _ _ (s₁.setTop (mkF m 238 #[.val (.ref a), .val (.int i), .val (.int to), .val (.int ((B i) &&& (255 : Int32))), .val (.int (4 : Int32)), .val (.int (128 : Int32)), .val (.int (143 : Int32)), .val (.int (1 : Int32)), .val (.int (4 : Int32))] []))
                        refine Gl.go ?_ (fun t k => XS.iload X0.here hx rfl (hb hby d1_238) rfl k)
                        show Gl _ _ _ _ (s₁.setTop (mkF m 240 #[.val (.ref a), .val (.int i), .val (.int to), .val (.int ((B i) &&& (255 : Int32))), .val (.int (4 : Int32)), .val (.int (128 : Int32)), .val (.int (143 : Int32)), .val (.int (1 : Int32)), .val (.int (4 : Int32))] [(.int (1 : Int32))]))
                        refine Gl.go ?_ (fun t k => XS.ifNo X0.here hx rfl (hb hby d1_240) rfl ((if0 _ _).trans (feq (by decide : ¬ ((1 : Int32) = (0 : Int32)))).1) k)
                        show Gl _ _ _ _ (s₁.setTop (mkF m 243 #[.val (.ref a), .val (.int i), .val (.int to), .val (.int ((B i) &&& (255 : Int32))), .val (.int (4 : Int32)), .val (.int (128 : Int32)), .val (.int (143 : Int32)), .val (.int (1 : Int32)), .val (.int (4 : Int32))] []))
                        refine Gl.go ?_ (fun t k => XS.iloadN X0.here hx rfl (hb hby d1_243) rfl k)
                        show Gl _ _ _ _ (s₁.setTop (mkF m 244 #[.val (.ref a), .val (.int i), .val (.int to), .val (.int ((B i) &&& (255 : Int32))), .val (.int (4 : Int32)), .val (.int (128 : Int32)), .val (.int (143 : Int32)), .val (.int (1 : Int32)), .val (.int (4 : Int32))] [(.int i)]))
                        refine Gl.go ?_ (fun t k => XS.iload X0.here hx rfl (hb hby d1_244) rfl k)
                        show Gl _ _ _ _ (s₁.setTop (mkF m 246 #[.val (.ref a), .val (.int i), .val (.int to), .val (.int ((B i) &&& (255 : Int32))), .val (.int (4 : Int32)), .val (.int (128 : Int32)), .val (.int (143 : Int32)), .val (.int (1 : Int32)), .val (.int (4 : Int32))] [(.int (4 : Int32)), (.int i)]))
                        refine Gl.go ?_ (fun t k => XS.iadd X0.here hx rfl (hb hby d1_246) rfl k)
                        show Gl _ _ _ _ (s₁.setTop (mkF m 247 #[.val (.ref a), .val (.int i), .val (.int to), .val (.int ((B i) &&& (255 : Int32))), .val (.int (4 : Int32)), .val (.int (128 : Int32)), .val (.int (143 : Int32)), .val (.int (1 : Int32)), .val (.int (4 : Int32))] [(.int (i + (4 : Int32)))]))
                        refine Gl.go ?_ (fun t k => XS.goto X0.here hx rfl (pc0 := 247) (pc' := 251) rfl (hb hby d1_247) (by decide) (by decide) k)
                        show Gl _ _ _ _ (s₁.setTop (mkF m 251 #[.val (.ref a), .val (.int i), .val (.int to), .val (.int ((B i) &&& (255 : Int32))), .val (.int (4 : Int32)), .val (.int (128 : Int32)), .val (.int (143 : Int32)), .val (.int (1 : Int32)), .val (.int (4 : Int32))] [(.int (i + (4 : Int32)))]))
                        obtain ⟨fs, hr, hrun, hended, hW, hsame⟩ := X0.leave (v := some (.int (i + (4 : Int32)))) (fun h => by rw [Bd.returns] at h; cases h) (BodyLoose.notSynchronized Bd)
                        exact Gl.mk ⟨_, _, retI X0 hx Bd.returns (hb hby d1_251) hr, hrun, hended, _, _, rfl, ⟨congrArg (fun z => some (Value.int z)) ((if_neg hc30).trans ((if_pos hc31).trans ((if_pos hc32).trans ((if_neg hc33).trans ((if_neg hc34).trans ((if_pos hc40).trans ((if_neg hc41).trans ((if_neg hc42).trans ((if_neg hc43).trans ((if_pos hc44).trans ((if_pos hc45).trans (rfl)))))))))))).symm, rfl, e0⟩, ⟨_, rfl⟩, hW, hsame.mono (by decide) (by decide)⟩
                      · refine Gl.go ?_ (fun t k => XS.icmpYes X0.here hx rfl (pc0 := 222) (pc' := 229) rfl (hb hby d1_222) rfl (feq hc45).2 (by decide) (by decide) k)
                        show Gl _ _ _ _ (s₁.setTop (mkF m 229 #[.val (.ref a), .val (.int i), .val (.int to), .val (.int ((B i) &&& (255 : Int32))), .val (.int (4 : Int32)), .val (.int (128 : Int32)), .val (.int (143 : Int32)), .val (.int (1 : Int32)), .val (.int (3 : Int32))] []))
                        refine Gl.go ?_ (fun t k => XS.iconst X0.here hx rfl (hb hby d1_229) k)
                        show Gl _ _ _ _ (s₁.setTop (mkF m 230 #[.val (.ref a), .val (.int i), .val (.int to), .val (.int ((B i) &&& (255 : Int32))), .val (.int (4 : Int32)), .val (.int (128 : Int32)), .val (.int (143 : Int32)), .val (.int (1 : Int32)), .val (.int (3 : Int32))] [(.int (0 : Int32))]))
                        refine Gl.go ?_ (fun t k => XS.istore X0.here hx rfl (hb hby d1_230) rfl (l' := #[.val (.ref a), .val (.int i), .val (.int to), .val (.int ((B i) &&& (255 : Int32))), .val (.int (4 : Int32)), .val (.int (128 : Int32)), .val (.int (143 : Int32)), .val (.int (0 : Int32)), .val (.int (3 : Int32))]) rfl k)
                        show Gl _ _ _ _ (s₁.setTop (mkF m 232 #[.val (.ref a), .val (.int i), .val (.int to), .val (.int ((B i) &&& (255 : Int32))), .val (.int (4 : Int32)), .val (.int (128 : Int32)), .val (.int (143 : Int32)), .val (.int (0 : Int32)), .val (.int (3 : Int32))] []))
                        refine Gl.go ?_ (fun t k => XS.iinc X0.here hx rfl (hb hby d1_232) rfl (l' := #[.val (.ref a), .val (.int i), .val (.int to), .val (.int ((B i) &&& (255 : Int32))), .val (.int (4 : Int32)), .val (.int (128 : Int32)), .val (.int (143 : Int32)), .val (.int (0 : Int32)), .val (.int (4 : Int32))]) rfl k)
                        show Gl _ _ _ _ (s₁.setTop (mkF m 235 #[.val (.ref a), .val (.int i), .val (.int to), .val (.int ((B i) &&& (255 : Int32))), .val (.int (4 : Int32)), .val (.int (128 : Int32)), .val (.int (143 : Int32)), .val (.int (0 : Int32)), .val (.int (4 : Int32))] []))
                        refine Gl.go ?_ (fun t k => XS.goto X0.here hx rfl (pc0 := 235) (pc' := 197) rfl (hb hby d1_235) (by decide) (by decide) k)
                        show Gl _ _ _ _ (s₁.setTop (mkF m 197 #[.val (.ref a), .val (.int i), .val (.int to), .val (.int ((B i) &&& (255 : Int32))), .val (.int (4 : Int32)), .val (.int (128 : Int32)), .val (.int (143 : Int32)), .val (.int (0 : Int32)), .val (.int (4 : Int32))] []))
                        refine Gl.go ?_ (fun t k => XS.iload X0.here hx rfl (hb hby d1_197) rfl k)
                        show Gl _ _ _ _ (s₁.setTop (mkF m 199 #[.val (.ref a), .val (.int i), .val (.int to), .val (.int ((B i) &&& (255 : Int32))), .val (.int (4 : Int32)), .val (.int (128 : Int32)), .val (.int (143 : Int32)), .val (.int (0 : Int32)), .val (.int (4 : Int32))] [(.int (0 : Int32))]))
                        refine Gl.go ?_ (fun t k => XS.ifYes X0.here hx rfl (pc0 := 199) (pc' := 238) rfl (hb hby d1_199) rfl ((if0 _ _).trans (teq (by decide : (0 : Int32) = (0 : Int32))).1) (by decide) (by decide) k)
                        show Gl _ _ _ _ (s₁.setTop (mkF m 238 #[.val (.ref a), .val (.int i), .val (.int to), .val (.int ((B i) &&& (255 : Int32))), .val (.int (4 : Int32)), .val (.int (128 : Int32)), .val (.int (143 : Int32)), .val (.int (0 : Int32)), .val (.int (4 : Int32))] []))
                        refine Gl.go ?_ (fun t k => XS.iload X0.here hx rfl (hb hby d1_238) rfl k)
                        show Gl _ _ _ _ (s₁.setTop (mkF m 240 #[.val (.ref a), .val (.int i), .val (.int to), .val (.int ((B i) &&& (255 : Int32))), .val (.int (4 : Int32)), .val (.int (128 : Int32)), .val (.int (143 : Int32)), .val (.int (0 : Int32)), .val (.int (4 : Int32))] [(.int (0 : Int32))]))
                        refine Gl.go ?_ (fun t k => XS.ifYes X0.here hx rfl (pc0 := 240) (pc' := 250) rfl (hb hby d1_240) rfl ((if0 _ _).trans (teq (by decide : (0 : Int32) = (0 : Int32))).1) (by decide) (by decide) k)
                        show Gl _ _ _ _ (s₁.setTop (mkF m 250 #[.val (.ref a), .val (.int i), .val (.int to), .val (.int ((B i) &&& (255 : Int32))), .val (.int (4 : Int32)), .val (.int (128 : Int32)), .val (.int (143 : Int32)), .val (.int (0 : Int32)), .val (.int (4 : Int32))] []))
                        refine Gl.go ?_ (fun t k => XS.iconst X0.here hx rfl (hb hby d1_250) k)
                        show Gl _ _ _ _ (s₁.setTop (mkF m 251 #[.val (.ref a), .val (.int i), .val (.int to), .val (.int ((B i) &&& (255 : Int32))), .val (.int (4 : Int32)), .val (.int (128 : Int32)), .val (.int (143 : Int32)), .val (.int (0 : Int32)), .val (.int (4 : Int32))] [(.int (-1 : Int32))]))
                        obtain ⟨fs, hr, hrun, hended, hW, hsame⟩ := X0.leave (v := some (.int (-1 : Int32))) (fun h => by rw [Bd.returns] at h; cases h) (BodyLoose.notSynchronized Bd)
                        exact Gl.mk ⟨_, _, retI X0 hx Bd.returns (hb hby d1_251) hr, hrun, hended, _, _, rfl, ⟨congrArg (fun z => some (Value.int z)) ((if_neg hc30).trans ((if_pos hc31).trans ((if_pos hc32).trans ((if_neg hc33).trans ((if_neg hc34).trans ((if_pos hc40).trans ((if_neg hc41).trans ((if_neg hc42).trans ((if_neg hc43).trans ((if_pos hc44).trans ((if_neg hc45).trans (rfl)))))))))))).symm, rfl, e0⟩, ⟨_, rfl⟩, hW, hsame.mono (by decide) (by decide)⟩
                    · refine Gl.go ?_ (fun t k => XS.icmpYes X0.here hx rfl (pc0 := 222) (pc' := 229) rfl (hb hby d1_222) rfl (feq hc44).2 (by decide) (by decide) k)
                      show Gl _ _ _ _ (s₁.setTop (mkF m 229 #[.val (.ref a), .val (.int i), .val (.int to), .val (.int ((B i) &&& (255 : Int32))), .val (.int (4 : Int32)), .val (.int (128 : Int32)), .val (.int (143 : Int32)), .val (.int (1 : Int32)), .val (.int (2 : Int32))] []))
                      refine Gl.go ?_ (fun t k => XS.iconst X0.here hx rfl (hb hby d1_229) k)
                      show Gl _ _ _ _ (s₁.setTop (mkF m 230 #[.val (.ref a), .val (.int i), .val (.int to), .val (.int ((B i) &&& (255 : Int32))), .val (.int (4 : Int32)), .val (.int (128 : Int32)), .val (.int (143 : Int32)), .val (.int (1 : Int32)), .val (.int (2 : Int32))] [(.int (0 : Int32))]))
                      refine Gl.go ?_ (fun t k => XS.istore X0.here hx rfl (hb hby d1_230) rfl (l' := #[.val (.ref a), .val (.int i), .val (.int to), .val (.int ((B i) &&& (255 : Int32))), .val (.int (4 : Int32)), .val (.int (128 : Int32)), .val (.int (143 : Int32)), .val (.int (0 : Int32)), .val (.int (2 : Int32))]) rfl k)
                      show Gl _ _ _ _ (s₁.setTop (mkF m 232 #[.val (.ref a), .val (.int i), .val (.int to), .val (.int ((B i) &&& (255 : Int32))), .val (.int (4 : Int32)), .val (.int (128 : Int32)), .val (.int (143 : Int32)), .val (.int (0 : Int32)), .val (.int (2 : Int32))] []))
                      refine Gl.go ?_ (fun t k => XS.iinc X0.here hx rfl (hb hby d1_232) rfl (l' := #[.val (.ref a), .val (.int i), .val (.int to), .val (.int ((B i) &&& (255 : Int32))), .val (.int (4 : Int32)), .val (.int (128 : Int32)), .val (.int (143 : Int32)), .val (.int (0 : Int32)), .val (.int (3 : Int32))]) rfl k)
                      show Gl _ _ _ _ (s₁.setTop (mkF m 235 #[.val (.ref a), .val (.int i), .val (.int to), .val (.int ((B i) &&& (255 : Int32))), .val (.int (4 : Int32)), .val (.int (128 : Int32)), .val (.int (143 : Int32)), .val (.int (0 : Int32)), .val (.int (3 : Int32))] []))
                      refine Gl.go ?_ (fun t k => XS.goto X0.here hx rfl (pc0 := 235) (pc' := 197) rfl (hb hby d1_235) (by decide) (by decide) k)
                      show Gl _ _ _ _ (s₁.setTop (mkF m 197 #[.val (.ref a), .val (.int i), .val (.int to), .val (.int ((B i) &&& (255 : Int32))), .val (.int (4 : Int32)), .val (.int (128 : Int32)), .val (.int (143 : Int32)), .val (.int (0 : Int32)), .val (.int (3 : Int32))] []))
                      refine Gl.go ?_ (fun t k => XS.iload X0.here hx rfl (hb hby d1_197) rfl k)
                      show Gl _ _ _ _ (s₁.setTop (mkF m 199 #[.val (.ref a), .val (.int i), .val (.int to), .val (.int ((B i) &&& (255 : Int32))), .val (.int (4 : Int32)), .val (.int (128 : Int32)), .val (.int (143 : Int32)), .val (.int (0 : Int32)), .val (.int (3 : Int32))] [(.int (0 : Int32))]))
                      refine Gl.go ?_ (fun t k => XS.ifYes X0.here hx rfl (pc0 := 199) (pc' := 238) rfl (hb hby d1_199) rfl ((if0 _ _).trans (teq (by decide : (0 : Int32) = (0 : Int32))).1) (by decide) (by decide) k)
                      show Gl _ _ _ _ (s₁.setTop (mkF m 238 #[.val (.ref a), .val (.int i), .val (.int to), .val (.int ((B i) &&& (255 : Int32))), .val (.int (4 : Int32)), .val (.int (128 : Int32)), .val (.int (143 : Int32)), .val (.int (0 : Int32)), .val (.int (3 : Int32))] []))
                      refine Gl.go ?_ (fun t k => XS.iload X0.here hx rfl (hb hby d1_238) rfl k)
                      show Gl _ _ _ _ (s₁.setTop (mkF m 240 #[.val (.ref a), .val (.int i), .val (.int to), .val (.int ((B i) &&& (255 : Int32))), .val (.int (4 : Int32)), .val (.int (128 : Int32)), .val (.int (143 : Int32)), .val (.int (0 : Int32)), .val (.int (3 : Int32))] [(.int (0 : Int32))]))
                      refine Gl.go ?_ (fun t k => XS.ifYes X0.here hx rfl (pc0 := 240) (pc' := 250) rfl (hb hby d1_240) rfl ((if0 _ _).trans (teq (by decide : (0 : Int32) = (0 : Int32))).1) (by decide) (by decide) k)
                      show Gl _ _ _ _ (s₁.setTop (mkF m 250 #[.val (.ref a), .val (.int i), .val (.int to), .val (.int ((B i) &&& (255 : Int32))), .val (.int (4 : Int32)), .val (.int (128 : Int32)), .val (.int (143 : Int32)), .val (.int (0 : Int32)), .val (.int (3 : Int32))] []))
                      refine Gl.go ?_ (fun t k => XS.iconst X0.here hx rfl (hb hby d1_250) k)
                      show Gl _ _ _ _ (s₁.setTop (mkF m 251 #[.val (.ref a), .val (.int i), .val (.int to), .val (.int ((B i) &&& (255 : Int32))), .val (.int (4 : Int32)), .val (.int (128 : Int32)), .val (.int (143 : Int32)), .val (.int (0 : Int32)), .val (.int (3 : Int32))] [(.int (-1 : Int32))]))
                      obtain ⟨fs, hr, hrun, hended, hW, hsame⟩ := X0.leave (v := some (.int (-1 : Int32))) (fun h => by rw [Bd.returns] at h; cases h) (BodyLoose.notSynchronized Bd)
                      exact Gl.mk ⟨_, _, retI X0 hx Bd.returns (hb hby d1_251) hr, hrun, hended, _, _, rfl, ⟨congrArg (fun z => some (Value.int z)) ((if_neg hc30).trans ((if_pos hc31).trans ((if_pos hc32).trans ((if_neg hc33).trans ((if_neg hc34).trans ((if_pos hc40).trans ((if_neg hc41).trans ((if_neg hc42).trans ((if_neg hc43).trans ((if_neg hc44).trans (rfl))))))))))).symm, rfl, e0⟩, ⟨_, rfl⟩, hW, hsame.mono (by decide) (by decide)⟩
            · refine Gl.go ?_ (fun t k => XS.icmpYes X0.here hx rfl (pc0 := 133) (pc' := 142) rfl (hb hby d1_133) rfl (feq hc40).2 (by decide) (by decide) k)
              show Gl _ _ _ _ (s₁.setTop (mkF m 142 #[.val (.ref a), .val (.int i), .val (.int to), .val (.int ((B i) &&& (255 : Int32))), .val (.int (4 : Int32)), .val (.int (128 : Int32)), .val (.int (191 : Int32)), .unset, .unset] []))
              refine Gl.go ?_ (fun t k => XS.iload X0.here hx rfl (hb hby d1_142) rfl k)
              show Gl _ _ _ _ (s₁.setTop (mkF m 144 #[.val (.ref a), .val (.int i), .val (.int to), .val (.int ((B i) &&& (255 : Int32))), .val (.int (4 : Int32)), .val (.int (128 : Int32)), .val (.int (191 : Int32)), .unset, .unset] [(.int (191 : Int32))]))
              refine Gl.go ?_ (fun t k => XS.istore X0.here hx rfl (hb hby d1_144) rfl (l' := #[.val (.ref a), .val (.int i), .val (.int to), .val (.int ((B i) &&& (255 : Int32))), .val (.int (4 : Int32)), .val (.int (128 : Int32)), .val (.int (191 : Int32)), .unset, .unset]) rfl k)
              show Gl _ _ _ _ (s₁.setTop (mkF m 146 #[.val (.ref a), .val (.int i), .val (.int to), .val (.int ((B i) &&& (255 : Int32))), .val (.int (4 : Int32)), .val (.int (128 : Int32)), .val (.int (191 : Int32)), .unset, .unset] []))
              refine Gl.go ?_ (fun t k => XS.iload X0.here hx rfl (hb hby d1_146) rfl k)
              show Gl _ _ _ _ (s₁.setTop (mkF m 148 #[.val (.ref a), .val (.int i), .val (.int to), .val (.int ((B i) &&& (255 : Int32))), .val (.int (4 : Int32)), .val (.int (128 : Int32)), .val (.int (191 : Int32)), .unset, .unset] [(.int (4 : Int32))]))
              refine Gl.go ?_ (fun t k => XS.ifNo X0.here hx rfl (hb hby d1_148) rfl ((if0 _ _).trans (tlt (by decide : (0 : Int32) < (4 : Int32))).2.2.2) k)
              show Gl _ _ _ _ (s₁.setTop (mkF m 151 #[.val (.ref a), .val (.int i), .val (.int to), .val (.int ((B i) &&& (255 : Int32))), .val (.int (4 : Int32)), .val (.int (128 : Int32)), .val (.int (191 : Int32)), .unset, .unset] []))
              refine Gl.go ?_ (fun t k => XS.iloadN X0.here hx rfl (hb hby d1_151) rfl k)
              show Gl _ _ _ _ (s₁.setTop (mkF m 152 #[.val (.ref a), .val (.int i), .val (.int to), .val (.int ((B i) &&& (255 : Int32))), .val (.int (4 : Int32)), .val (.int (128 : Int32)), .val (.int (191 : Int32)), .unset, .unset] [(.int to)]))
              refine Gl.go ?_ (fun t k => XS.iloadN X0.here hx rfl (hb hby d1_152) rfl k)
              show Gl _ _ _ _ (s₁.setTop (mkF m 153 #[.val (.ref a), .val (.int i), .val (.int to), .val (.int ((B i) &&& (255 : Int32))), .val (.int (4 : Int32)), .val (.int (128 : Int32)), .val (.int (191 : Int32)), .unset, .unset] [(.int i), (.int to)]))
              refine Gl.go ?_ (fun t k => XS.isub X0.here hx rfl (hb hby d1_153) rfl k)
              show Gl _ _ _ _ (s₁.setTop (mkF m 154 #[.val (.ref a), .val (.int i), .val (.int to), .val (.int ((B i) &&& (255 : Int32))), .val (.int (4 : Int32)), .val (.int (128 : Int32)), .val (.int (191 : Int32)), .unset, .unset] [(.int (to - i))]))
              refine Gl.go ?_ (fun t k => XS.iload X0.here hx rfl (hb hby d1_154) rfl k)
              show Gl _ _ _ _ (s₁.setTop (mkF m 156 #[.val (.ref a), .val (.int i), .val (.int to), .val (.int ((B i) &&& (255 : Int32))), .val (.int (4 : Int32)), .val (.int (128 : Int32)), .val (.int (191 : Int32)), .unset, .unset] [(.int (4 : Int32)), (.int (to - i))]))
              by_cases hc46 : (to - i) < (4 : Int32)
              · refine Gl.go ?_ (fun t k => XS.icmpYes X0.here hx rfl (pc0 := 156) (pc' := 191) rfl (hb hby d1_156) rfl (tlt hc46).1 (by decide) (by decide) k)
                show Gl _ _ _ _ (s₁.setTop (mkF m 191 #[.val (.ref a), .val (.int i), .val (.int to), .val (.int ((B i) &&& (255 : Int32))), .val (.int (4 : Int32)), .val (.int (128 : Int32)), .val (.int (191 : Int32)), .unset, .unset] []))
                refine Gl.go ?_ (fun t k => XS.iconst X0.here hx rfl (hb hby d1_191) k)
                show Gl _ _ _ _ (s₁.setTop (mkF m 192 #[.val (.ref a), .val (.int i), .val (.int to), .val (.int ((B i) &&& (255 : Int32))), .val (.int (4 : Int32)), .val (.int (128 : Int32)), .val (.int (191 : Int32)), .unset, .unset] [(.int (0 : Int32))]))
                refine Gl.go ?_ (fun t k => XS.istore X0.here hx rfl (hb hby d1_192) rfl (l' := #[.val (.ref a), .val (.int i), .val (.int to), .val (.int ((B i) &&& (255 : Int32))), .val (.int (4 : Int32)), .val (.int (128 : Int32)), .val (.int (191 : Int32)), .val (.int (0 : Int32)), .unset]) rfl k)
                show Gl _ _ _ _ (s₁.setTop (mkF m 194 #[.val (.ref a), .val (.int i), .val (.int to), .val (.int ((B i) &&& (255 : Int32))), .val (.int (4 : Int32)), .val (.int (128 : Int32)), .val (.int (191 : Int32)), .val (.int (0 : Int32)), .unset] []))
                refine Gl.go ?_ (fun t k => XS.iconst X0.here hx rfl (hb hby d1_194) k)
                show Gl _ _ _ _ (s₁.setTop (mkF m 195 #[.val (.ref a), .val (.int i), .val (.int to), .val (.int ((B i) &&& (255 : Int32))), .val (.int (4 : Int32)), .val (.int (128 : Int32)), .val (.int (191 : Int32)), .val (.int (0 : Int32)), .unset] [(.int (2 : Int32))]))
                refine Gl.go ?_ (fun t k => XS.istore X0.here hx rfl (hb hby d1_195) rfl (l' := #[.val (.ref a), .val (.int i), .val (.int to), .val (.int ((B i) &&& (255 : Int32))), .val (.int (4 : Int32)), .val (.int (128 : Int32)), .val (.int (191 : Int32)), .val (.int (0 : Int32)), .val (.int (2 : Int32))]) rfl k)
                show Gl _ _ _ _ (s₁.setTop (mkF m 197 #[.val (.ref a), .val (.int i), .val (.int to), .val (.int ((B i) &&& (255 : Int32))), .val (.int (4 : Int32)), .val (.int (128 : Int32)), .val (.int (191 : Int32)), .val (.int (0 : Int32)), .val (.int (2 : Int32))] []))
                refine Gl.go ?_ (fun t k => XS.iload X0.here hx rfl (hb hby d1_197) rfl k)
                show Gl _ _ _ _ (s₁.setTop (mkF m 199 #[.val (.ref a), .val (.int i), .val (.int to), .val (.int ((B i) &&& (255 : Int32))), .val (.int (4 : Int32)), .val (.int (128 : Int32)), .val (.int (191 : Int32)), .val (.int (0 : Int32)), .val (.int (2 : Int32))] [(.int (0 : Int32))]))
                refine Gl.go ?_ (fun t k => XS.ifYes X0.here hx rfl (pc0 := 199) (pc' := 238) rfl (hb hby d1_199) rfl ((if0 _ _).trans (teq (by decide : (0 : Int32) = (0 : Int32))).1) (by decide) (by decide) k)
                show Gl _ _ _ _ (s₁.setTop (mkF m 238 #[.val (.ref a), .val (.int i), .val (.int to), .val (.int ((B i) &&& (255 : Int32))), .val (.int (4 : Int32)), .val (.int (128 : Int32)), .val (.int (191 : Int32)), .val (.int (0 : Int32)), .val (.int (2 : Int32))] []))
                refine Gl.go ?_ (fun t k => XS.iload X0.here hx rfl (hb hby d1_238) rfl k)
                show Gl _ _ _ _ (s₁.setTop (mkF m 240 #[.val (.ref a), .val (.int i), .val (.int to), .val (.int ((B i) &&& (255 : Int32))), .val (.int (4 : Int32)), .val (.int (128 : Int32)), .val (.int (191 : Int32)), .val (.int (0 : Int32)), .val (.int (2 : Int32))] [(.int (0 : Int32))]))
                refine Gl.go ?_ (fun t k => XS.ifYes X0.here hx rfl (pc0 := 240) (pc' := 250) rfl (hb hby d1_240) rfl ((if0 _ _).trans (teq (by decide : (0 : Int32) = (0 : Int32))).1) (by decide) (by decide) k)
                show Gl _ _ _ _ (s₁.setTop (mkF m 250 #[.val (.ref a), .val (.int i), .val (.int to), .val (.int ((B i) &&& (255 : Int32))), .val (.int (4 : Int32)), .val (.int (128 : Int32)), .val (.int (191 : Int32)), .val (.int (0 : Int32)), .val (.int (2 : Int32))] []))
                refine Gl.go ?_ (fun t k => XS.iconst X0.here hx rfl (hb hby d1_250) k)
                show Gl _ _ _ _ (s₁.setTop (mkF m 251 #[.val (.ref a), .val (.int i), .val (.int to), .val (.int ((B i) &&& (255 : Int32))), .val (.int (4 : Int32)), .val (.int (128 : Int32)), .val (.int (191 : Int32)), .val (.int (0 : Int32)), .val (.int (2 : Int32))] [(.int (-1 : Int32))]))
                obtain ⟨fs, hr, hrun, hended, hW, hsame⟩ := X0.leave (v := some (.int (-1 : Int32))) (fun h => by rw [Bd.returns] at h; cases h) (BodyLoose.notSynchronized Bd)
                exact Gl.mk ⟨_, _, retI X0 hx Bd.returns (hb hby d1_251) hr, hrun, hended, _, _, rfl, ⟨congrArg (fun z => some (Value.int z)) ((if_neg hc30).trans ((if_pos hc31).trans ((if_pos hc32).trans ((if_neg hc33).trans ((if_neg hc34).trans ((if_neg hc40).trans ((if_pos hc46).trans (rfl)))))))).symm, rfl, e0⟩, ⟨_, rfl⟩, hW, hsame.mono (by decide) (by decide)⟩
              · refine Gl.go ?_ (fun t k => XS.icmpNo X0.here hx rfl (hb hby d1_156) rfl (flt hc46).1 k)
                show Gl _ _ _ _ (s₁.setTop (mkF m 159 #[.val (.ref a), .val (.int i), .val (.int to), .val (.int ((B i) &&& (255 : Int32))), .val (.int (4 : Int32)), .val (.int (128 : Int32)), .val (.int (191 : Int32)), .unset, .unset] []))
                refine Gl.go ?_ (fun t k => XS.aloadN X0.here hx rfl (hb hby d1_159) rfl rfl k)
                show Gl _ _ _ _ (s₁.setTop (mkF m 160 #[.val (.ref a), .val (.int i), .val (.int to), .val (.int ((B i) &&& (255 : Int32))), .val (.int (4 : Int32)), .val (.int (128 : Int32)), .val (.int (191 : Int32)), .unset, .unset] [(.ref a)]))
                refine Gl.go ?_ (fun t k => XS.iloadN X0.here hx rfl (hb hby d1_160) rfl k)
                show Gl _ _ _ _ (s₁.setTop (mkF m 161 #[.val (.ref a), .val (.int i), .val (.int to), .val (.int ((B i) &&& (255 : Int32))), .val (.int (4 : Int32)), .val (.int (128 : Int32)), .val (.int (191 : Int32)), .unset, .unset] [(.int i), (.ref a)]))
                refine Gl.go ?_ (fun t k => XS.iconst X0.here hx rfl (hb hby d1_161) k)
                show Gl _ _ _ _ (s₁.setTop (mkF m 162 #[.val (.ref a), .val (.int i), .val (.int to), .val (.int ((B i) &&& (255 : Int32))), .val (.int (4 : Int32)), .val (.int (128 : Int32)), .val (.int (191 : Int32)), .unset, .unset] [(.int (1 : Int32)), (.int i), (.ref a)]))
                refine Gl.go ?_ (fun t k => XS.iadd X0.here hx rfl (hb hby d1_162) rfl k)
                show Gl _ _ _ _ (s₁.setTop (mkF m 163 #[.val (.ref a), .val (.int i), .val (.int to), .val (.int ((B i) &&& (255 : Int32))), .val (.int (4 : Int32)), .val (.int (128 : Int32)), .val (.int (191 : Int32)), .unset, .unset] [(.int (i + (1 : Int32))), (.ref a)]))
                refine Gl.go ?_ (BA.rdB hB X0 hx hZ e0 hi1.1 hi1.2 (g := (mkF m 163 #[.val (.ref a), .val (.int i), .val (.int to), .val (.int ((B i) &&& (255 : Int32))), .val (.int (4 : Int32)), .val (.int (128 : Int32)), .val (.int (191 : Int32)), .unset, .unset] [(.int (i + (1 : Int32))), (.ref a)])) rfl rfl (hb hby d1_163))
                show Gl _ _ _ _ (s₁.setTop (mkF m 164 #[.val (.ref a), .val (.int i), .val (.int to), .val (.int ((B i) &&& (255 : Int32))), .val (.int (4 : Int32)), .val (.int (128 : Int32)), .val (.int (191 : Int32)), .unset, .unset] [(.int (B (i + (1 : Int32))))]))
                refine Gl.go ?_ (fun t k => XS.sipush X0.here hx rfl (hb hby d1_164) k)
                show Gl _ _ _ _ (s₁.setTop (mkF m 167 #[.val (.ref a), .val (.int i), .val (.int to), .val (.int ((B i) &&& (255 : Int32))), .val (.int (4 : Int32)), .val (.int (128 : Int32)), .val (.int (191 : Int32)), .unset, .unset] [(.int (255 : Int32)), (.int (B (i + (1 : Int32))))]))
                refine Gl.go ?_ (fun t k => XS.iand X0.here hx rfl (hb hby d1_167) rfl k)
                show Gl _ _ _ _ (s₁.setTop (mkF m 168 #[.val (.ref a), .val (.int i), .val (.int to), .val (.int ((B i) &&& (255 : Int32))), .val (.int (4 : Int32)), .val (.int (128 : Int32)), .val (.int (191 : Int32)), .unset, .unset] [(.int ((B (i + (1 : Int32))) &&& (255 : Int32)))]))
                refine Gl.go ?_ (fun t k => XS.iload X0.here hx rfl (hb hby d1_168) rfl k)
                show Gl _ _ _ _ (s₁.setTop (mkF m 170 #[.val (.ref a), .val (.int i), .val (.int to), .val (.int ((B i) &&& (255 : Int32))), .val (.int (4 : Int32)), .val (.int (128 : Int32)), .val (.int (191 : Int32)), .unset, .unset] [(.int (128 : Int32)), (.int ((B (i + (1 : Int32))) &&& (255 : Int32)))]))
                by_cases hc47 : ((B (i + (1 : Int32))) &&& (255 : Int32)) < (128 : Int32)
                · refine Gl.go ?_ (fun t k => XS.icmpYes X0.here hx rfl (pc0 := 170) (pc' := 191) rfl (hb hby d1_170) rfl (tlt hc47).1 (by decide) (by decide) k)
                  show Gl _ _ _ _ (s₁.setTop (mkF m 191 #[.val (.ref a), .val (.int i), .val (.int to), .val (.int ((B i) &&& (255 : Int32))), .val (.int (4 : Int32)), .val (.int (128 : Int32)), .val (.int (191 : Int32)), .unset, .unset] []))
                  refine Gl.go ?_ (fun t k => XS.iconst X0.here hx rfl (hb hby d1_191) k)
                  show Gl _ _ _ _ (s₁.setTop (mkF m 192 #[.val (.ref a), .val (.int i), .val (.int to), .val (.int ((B i) &&& (255 : Int32))), .val (.int (4 : Int32)), .val (.int (128 : Int32)), .val (.int (191 : Int32)), .unset, .unset] [(.int (0 : Int32))]))
                  refine Gl.go ?_ (fun t k => XS.istore X0.here hx rfl (hb hby d1_192) rfl (l' := #[.val (.ref a), .val (.int i), .val (.int to), .val (.int ((B i) &&& (255 : Int32))), .val (.int (4 : Int32)), .val (.int (128 : Int32)), .val (.int (191 : Int32)), .val (.int (0 : Int32)), .unset]) rfl k)
                  show Gl _ _ _ _ (s₁.setTop (mkF m 194 #[.val (.ref a), .val (.int i), .val (.int to), .val (.int ((B i) &&& (255 : Int32))), .val (.int (4 : Int32)), .val (.int (128 : Int32)), .val (.int (191 : Int32)), .val (.int (0 : Int32)), .unset] []))
                  refine Gl.go ?_ (fun t k => XS.iconst X0.here hx rfl (hb hby d1_194) k)
                  show Gl _ _ _ _ (s₁.setTop (mkF m 195 #[.val (.ref a), .val (.int i), .val (.int to), .val (.int ((B i) &&& (255 : Int32))), .val (.int (4 : Int32)), .val (.int (128 : Int32)), .val (.int (191 : Int32)), .val (.int (0 : Int32)), .unset] [(.int (2 : Int32))]))
                  refine Gl.go ?_ (fun t k => XS.istore X0.here hx rfl (hb hby d1_195) rfl (l' := #[.val (.ref a), .val (.int i), .val (.int to), .val (.int ((B i) &&& (255 : Int32))), .val (.int (4 : Int32)), .val (.int (128 : Int32)), .val (.int (191 : Int32)), .val (.int (0 : Int32)), .val (.int (2 : Int32))]) rfl k)
                  show Gl _ _ _ _ (s₁.setTop (mkF m 197 #[.val (.ref a), .val (.int i), .val (.int to), .val (.int ((B i) &&& (255 : Int32))), .val (.int (4 : Int32)), .val (.int (128 : Int32)), .val (.int (191 : Int32)), .val (.int (0 : Int32)), .val (.int (2 : Int32))] []))
                  refine Gl.go ?_ (fun t k => XS.iload X0.here hx rfl (hb hby d1_197) rfl k)
                  show Gl _ _ _ _ (s₁.setTop (mkF m 199 #[.val (.ref a), .val (.int i), .val (.int to), .val (.int ((B i) &&& (255 : Int32))), .val (.int (4 : Int32)), .val (.int (128 : Int32)), .val (.int (191 : Int32)), .val (.int (0 : Int32)), .val (.int (2 : Int32))] [(.int (0 : Int32))]))
                  refine Gl.go ?_ (fun t k => XS.ifYes X0.here hx rfl (pc0 := 199) (pc' := 238) rfl (hb hby d1_199) rfl ((if0 _ _).trans (teq (by decide : (0 : Int32) = (0 : Int32))).1) (by decide) (by decide) k)
                  show Gl _ _ _ _ (s₁.setTop (mkF m 238 #[.val (.ref a), .val (.int i), .val (.int to), .val (.int ((B i) &&& (255 : Int32))), .val (.int (4 : Int32)), .val (.int (128 : Int32)), .val (.int (191 : Int32)), .val (.int (0 : Int32)), .val (.int (2 : Int32))] []))
                  refine Gl.go ?_ (fun t k => XS.iload X0.here hx rfl (hb hby d1_238) rfl k)
                  show Gl _ _ _ _ (s₁.setTop (mkF m 240 #[.val (.ref a), .val (.int i), .val (.int to), .val (.int ((B i) &&& (255 : Int32))), .val (.int (4 : Int32)), .val (.int (128 : Int32)), .val (.int (191 : Int32)), .val (.int (0 : Int32)), .val (.int (2 : Int32))] [(.int (0 : Int32))]))
                  refine Gl.go ?_ (fun t k => XS.ifYes X0.here hx rfl (pc0 := 240) (pc' := 250) rfl (hb hby d1_240) rfl ((if0 _ _).trans (teq (by decide : (0 : Int32) = (0 : Int32))).1) (by decide) (by decide) k)
                  show Gl _ _ _ _ (s₁.setTop (mkF m 250 #[.val (.ref a), .val (.int i), .val (.int to), .val (.int ((B i) &&& (255 : Int32))), .val (.int (4 : Int32)), .val (.int (128 : Int32)), .val (.int (191 : Int32)), .val (.int (0 : Int32)), .val (.int (2 : Int32))] []))
                  refine Gl.go ?_ (fun t k => XS.iconst X0.here hx rfl (hb hby d1_250) k)
                  show Gl _ _ _ _ (s₁.setTop (mkF m 251 #[.val (.ref a), .val (.int i), .val (.int to), .val (.int ((B i) &&& (255 : Int32))), .val (.int (4 : Int32)), .val (.int (128 : Int32)), .val (.int (191 : Int32)), .val (.int (0 : Int32)), .val (.int (2 : Int32))] [(.int (-1 : Int32))]))
                  obtain ⟨fs, hr, hrun, hended, hW, hsame⟩ := X0.leave (v := some (.int (-1 : Int32))) (fun h => by rw [Bd.returns] at h; cases h) (BodyLoose.notSynchronized Bd)
                  exact Gl.mk ⟨_, _, retI X0 hx Bd.returns (hb hby d1_251) hr, hrun, hended, _, _, rfl, ⟨congrArg (fun z => some (Value.int z)) ((if_neg hc30).trans ((if_pos hc31).trans ((if_pos hc32).trans ((if_neg hc33).trans ((if_neg hc34).trans ((if_neg hc40).trans ((if_neg hc46).trans ((if_pos hc47).trans (rfl))))))))).symm, rfl, e0⟩, ⟨_, rfl⟩, hW, hsame.mono (by decide) (by decide)⟩
                · refine Gl.go ?_ (fun t k => XS.icmpNo X0.here hx rfl (hb hby d1_170) rfl (flt hc47).1 k)
                  show Gl _ _ _ _ (s₁.setTop (mkF m 173 #[.val (.ref a), .val (.int i), .val (.int to), .val (.int ((B i) &&& (255 : Int32))), .val (.int (4 : Int32)), .val (.int (128 : Int32)), .val (.int (191 : Int32)), .unset, .unset] []))
                  refine Gl.go ?_ (fun t k => XS.aloadN X0.here hx rfl (hb hby d1_173) rfl rfl k)
                  show Gl _ _ _ _ (s₁.setTop (mkF m 174 #[.val (.ref a), .val (.int i), .val (.int to), .val (.int ((B i) &&& (255 : Int32))), .val (.int (4 : Int32)), .val (.int (128 : Int32)), .val (.int (191 : Int32)), .unset, .unset] [(.ref a)]))
                  refine Gl.go ?_ (fun t k => XS.iloadN X0.here hx rfl (hb hby d1_174) rfl k)
                  show Gl _ _ _ _ (s₁.setTop (mkF m 175 #[.val (.ref a), .val (.int i), .val (.int to), .val (.int ((B i) &&& (255 : Int32))), .val (.int (4 : Int32)), .val (.int (128 : Int32)), .val (.int (191 : Int32)), .unset, .unset] [(.int i), (.ref a)]))
                  refine Gl.go ?_ (fun t k => XS.iconst X0.here hx rfl (hb hby d1_175) k)
                  show Gl _ _ _ _ (s₁.setTop (mkF m 176 #[.val (.ref a), .val (.int i), .val (.int to), .val (.int ((B i) &&& (255 : Int32))), .val (.int (4 : Int32)), .val (.int (128 : Int32)), .val (.int (191 : Int32)), .unset, .unset] [(.int (1 : Int32)), (.int i), (.ref a)]))
                  refine Gl.go ?_ (fun t k => XS.iadd X0.here hx rfl (hb hby d1_176) rfl k)
                  show Gl _ _ _ _ (s₁.setTop (mkF m 177 #[.val (.ref a), .val (.int i), .val (.int to), .val (.int ((B i) &&& (255 : Int32))), .val (.int (4 : Int32)), .val (.int (128 : Int32)), .val (.int (191 : Int32)), .unset, .unset] [(.int (i + (1 : Int32))), (.ref a)]))
                  refine Gl.go ?_ (BA.rdB hB X0 hx hZ e0 hi1.1 hi1.2 (g := (mkF m 177 #[.val (.ref a), .val (.int i), .val (.int to), .val (.int ((B i) &&& (255 : Int32))), .val (.int (4 : Int32)), .val (.int (128 : Int32)), .val (.int (191 : Int32)), .unset, .unset] [(.int (i + (1 : Int32))), (.ref a)])) rfl rfl (hb hby d1_177))
                  show Gl _ _ _ _ (s₁.setTop (mkF m 178 #[.val (.ref a), .val (.int i), .val (.int to), .val (.int ((B i) &&& (255 : Int32))), .val (.int (4 : Int32)), .val (.int (128 : Int32)), .val (.int (191 : Int32)), .unset, .unset] [(.int (B (i + (1 : Int32))))]))
                  refine Gl.go ?_ (fun t k => XS.sipush X0.here hx rfl (hb hby d1_178) k)
                  show Gl _ _ _ _ (s₁.setTop (mkF m 181 #[.val (.ref a), .val (.int i), .val (.int to), .val (.int ((B i) &&& (255 : Int32))), .val (.int (4 : Int32)), .val (.int (128 : Int32)), .val (.int (191 : Int32)), .unset, .unset] [(.int (255 : Int32)), (.int (B (i + (1 : Int32))))]))
                  refine Gl.go ?_ (fun t k => XS.iand X0.here hx rfl (hb hby d1_181) rfl k)
                  show Gl _ _ _ _ (s₁.setTop (mkF m 182 #[.val (.ref a), .val (.int i), .val (.int to), .val (.int ((B i) &&& (255 : Int32))), .val (.int (4 : Int32)), .val (.int (128 : Int32)), .val (.int (191 : Int32)), .unset, .unset] [(.int ((B (i + (1 : Int32))) &&& (255 : Int32)))]))
                  refine Gl.go ?_ (fun t k => XS.iload X0.here hx rfl (hb hby d1_182) rfl k)
                  show Gl _ _ _ _ (s₁.setTop (mkF m 184 #[.val (.ref a), .val (.int i), .val (.int to), .val (.int ((B i) &&& (255 : Int32))), .val (.int (4 : Int32)), .val (.int (128 : Int32)), .val (.int (191 : Int32)), .unset, .unset] [(.int (191 : Int32)), (.int ((B (i + (1 : Int32))) &&& (255 : Int32)))]))
                  by_cases hc48 : (191 : Int32) < ((B (i + (1 : Int32))) &&& (255 : Int32))
                  · refine Gl.go ?_ (fun t k => XS.icmpYes X0.here hx rfl (pc0 := 184) (pc' := 191) rfl (hb hby d1_184) rfl (tlt hc48).2.2.1 (by decide) (by decide) k)
                    show Gl _ _ _ _ (s₁.setTop (mkF m 191 #[.val (.ref a), .val (.int i), .val (.int to), .val (.int ((B i) &&& (255 : Int32))), .val (.int (4 : Int32)), .val (.int (128 : Int32)), .val (.int (191 : Int32)), .unset, .unset] []))
                    refine Gl.go ?_ (fun t k => XS.iconst X0.here hx rfl (hb hby d1_191) k)
                    show Gl _ _ _ _ (s₁.setTop (mkF m 192 #[.val (.ref a), .val (.int i), .val (.int to), .val (.int ((B i) &&& (255 : Int32))), .val (.int (4 : Int32)), .val (.int (128 : Int32)), .val (.int (191 : Int32)), .unset, .unset] [(.int (0 : Int32))]))
                    refine Gl.go ?_ (fun t k => XS.istore X0.here hx rfl (hb hby d1_192) rfl (l' := #[.val (.ref a), .val (.int i), .val (.int to), .val (.int ((B i) &&& (255 : Int32))), .val (.int (4 : Int32)), .val (.int (128 : Int32)), .val (.int (191 : Int32)), .val (.int (0 : Int32)), .unset]) rfl k)
                    show Gl _ _ _ _ (s₁.setTop (mkF m 194 #[.val (.ref a), .val (.int i), .val (.int to), .val (.int ((B i) &&& (255 : Int32))), .val (.int (4 : Int32)), .val (.int (128 : Int32)), .val (.int (191 : Int32)), .val (.int (0 : Int32)), .unset] []))
                    refine Gl.go ?_ (fun t k => XS.iconst X0.here hx rfl (hb hby d1_194) k)
                    show Gl _ _ _ _ (s₁.setTop (mkF m 195 #[.val (.ref a), .val (.int i), .val (.int to), .val (.int ((B i) &&& (255 : Int32))), .val (.int (4 : Int32)), .val (.int (128 : Int32)), .val (.int (191 : Int32)), .val (.int (0 : Int32)), .unset] [(.int (2 : Int32))]))
                    refine Gl.go ?_ (fun t k => XS.istore X0.here hx rfl (hb hby d1_195) rfl (l' := #[.val (.ref a), .val (.int i), .val (.int to), .val (.int ((B i) &&& (255 : Int32))), .val (.int (4 : Int32)), .val (.int (128 : Int32)), .val (.int (191 : Int32)), .val (.int (0 : Int32)), .val (.int (2 : Int32))]) rfl k)
                    show Gl _ _ _ _ (s₁.setTop (mkF m 197 #[.val (.ref a), .val (.int i), .val (.int to), .val (.int ((B i) &&& (255 : Int32))), .val (.int (4 : Int32)), .val (.int (128 : Int32)), .val (.int (191 : Int32)), .val (.int (0 : Int32)), .val (.int (2 : Int32))] []))
                    refine Gl.go ?_ (fun t k => XS.iload X0.here hx rfl (hb hby d1_197) rfl k)
                    show Gl _ _ _ _ (s₁.setTop (mkF m 199 #[.val (.ref a), .val (.int i), .val (.int to), .val (.int ((B i) &&& (255 : Int32))), .val (.int (4 : Int32)), .val (.int (128 : Int32)), .val (.int (191 : Int32)), .val (.int (0 : Int32)), .val (.int (2 : Int32))] [(.int (0 : Int32))]))
                    refine Gl.go ?_ (fun t k => XS.ifYes X0.here hx rfl (pc0 := 199) (pc' := 238) rfl (hb hby d1_199) rfl ((if0 _ _).trans (teq (by decide : (0 : Int32) = (0 : Int32))).1) (by decide) (by decide) k)
                    show Gl _ _ _ _ (s₁.setTop (mkF m 238 #[.val (.ref a), .val (.int i), .val (.int to), .val (.int ((B i) &&& (255 : Int32))), .val (.int (4 : Int32)), .val (.int (128 : Int32)), .val (.int (191 : Int32)), .val (.int (0 : Int32)), .val (.int (2 : Int32))] []))
                    refine Gl.go ?_ (fun t k => XS.iload X0.here hx rfl (hb hby d1_238) rfl k)
                    show Gl _ _ _ _ (s₁.setTop (mkF m 240 #[.val (.ref a), .val (.int i), .val (.int to), .val (.int ((B i) &&& (255 : Int32))), .val (.int (4 : Int32)), .val (.int (128 : Int32)), .val (.int (191 : Int32)), .val (.int (0 : Int32)), .val (.int (2 : Int32))] [(.int (0 : Int32))]))
                    refine Gl.go ?_ (fun t k => XS.ifYes X0.here hx rfl (pc0 := 240) (pc' := 250) rfl (hb hby d1_240) rfl ((if0 _ _).trans (teq (by decide : (0 : Int32) = (0 : Int32))).1) (by decide) (by decide) k)
                    show Gl _ _ _ _ (s₁.setTop (mkF m 250 #[.val (.ref a), .val (.int i), .val (.int to), .val (.int ((B i) &&& (255 : Int32))), .val (.int (4 : Int32)), .val (.int (128 : Int32)), .val (.int (191 : Int32)), .val (.int (0 : Int32)), .val (.int (2 : Int32))] []))
                    refine Gl.go ?_ (fun t k => XS.iconst X0.here hx rfl (hb hby d1_250) k)
                    show Gl _ _ _ _ (s₁.setTop (mkF m 251 #[.val (.ref a), .val (.int i), .val (.int to), .val (.int ((B i) &&& (255 : Int32))), .val (.int (4 : Int32)), .val (.int (128 : Int32)), .val (.int (191 : Int32)), .val (.int (0 : Int32)), .val (.int (2 : Int32))] [(.int (-1 : Int32))]))
                    obtain ⟨fs, hr, hrun, hended, hW, hsame⟩ := X0.leave (v := some (.int (-1 : Int32))) (fun h => by rw [Bd.returns] at h; cases h) (BodyLoose.notSynchronized Bd)
                    exact Gl.mk ⟨_, _, retI X0 hx Bd.returns (hb hby d1_251) hr, hrun, hended, _, _, rfl, ⟨congrArg (fun z => some (Value.int z)) ((if_neg hc30).trans ((if_pos hc31).trans ((if_pos hc32).trans ((if_neg hc33).trans ((if_neg hc34).trans ((if_neg hc40).trans ((if_neg hc46).trans ((if_neg hc47).trans ((if_pos hc48).trans (rfl)))))))))).symm, rfl, e0⟩, ⟨_, rfl⟩, hW, hsame.mono (by decide) (by decide)⟩
                  · refine Gl.go ?_ (fun t k => XS.icmpNo X0.here hx rfl (hb hby d1_184) rfl (flt hc48).2.2.1 k)
                    show Gl _ _ _ _ (s₁.setTop (mkF m 187 #[.val (.ref a), .val (.int i), .val (.int to), .val (.int ((B i) &&& (255 : Int32))), .val (.int (4 : Int32)), .val (.int (128 : Int32)), .val (.int (191 : Int32)), .unset, .unset] []))
                    refine Gl.go ?_ (fun t k => XS.iconst X0.here hx rfl (hb hby d1_187) k)
                    show Gl _ _ _ _ (s₁.setTop (mkF m 188 #[.val (.ref a), .val (.int i), .val (.int to), .val (.int ((B i) &&& (255 : Int32))), .val (.int (4 : Int32)), .val (.int (128 : Int32)), .val (.int (191 : Int32)), .unset, .unset] [(.int (1 : Int32))]))
                    refine Gl.go ?_ (fun t k => XS.goto X0.here hx rfl (pc0 := 188) (pc' := 192) rfl (hb hby d1_188) (by decide) (by decide) k)
                    show Gl _ _ _ _ (s₁.setTop (mkF m 192 #[.val (.ref a), .val (.int i), .val (.int to), .val (.int ((B i) &&& (255 : Int32))), .val (.int (4 : Int32)), .val (.int (128 : Int32)), .val (.int (191 : Int32)), .unset, .unset] [(.int (1 : Int32))]))
                    refine Gl.go ?_ (fun t k => XS.istore X0.here hx rfl (hb hby d1_192) rfl (l' := #[.val (.ref a), .val (.int i), .val (.int to), .val (.int ((B i) &&& (255 : Int32))), .val (.int (4 : Int32)), .val (.int (128 : Int32)), .val (.int (191 : Int32)), .val (.int (1 : Int32)), .unset]) rfl k)
                    show Gl _ _ _ _ (s₁.setTop (mkF m 194 #[.val (.ref a), .val (.int i), .val (.int to), .val (.int ((B i) &&& (255 : Int32))), .val (.int (4 : Int32)), .val (.int (128 : Int32)), .val (.int (191 : Int32)), .val (.int (1 : Int32)), .unset] []))
                    refine Gl.go ?_ (fun t k => XS.iconst X0.here hx rfl (hb hby d1_194) k)
                    show Gl _ _ _ _ (s₁.setTop (mkF m 195 #[.val (.ref a), .val (.int i), .val (.int to), .val (.int ((B i) &&& (255 : Int32))), .val (.int (4 : Int32)), .val (.int (128 : Int32)), .val (.int (191 : Int32)), .val (.int (1 : Int32)), .unset] [(.int (2 : Int32))]))
                    refine Gl.go ?_ (fun t k => XS.istore X0.here hx rfl (hb hby d1_195) rfl (l' := #[.val (.ref a), .val (.int i), .val (.int to), .val (.int ((B i) &&& (255 : Int32))), .val (.int (4 : Int32)), .val (.int (128 : Int32)), .val (.int (191 : Int32)), .val (.int (1 : Int32)), .val (.int (2 : Int32))]) rfl k)
                    show Gl _ _ _ _ (s₁.setTop (mkF m 197 #[.val (.ref a), .val (.int i), .val (.int to), .val (.int ((B i) &&& (255 : Int32))), .val (.int (4 : Int32)), .val (.int (128 : Int32)), .val (.int (191 : Int32)), .val (.int (1 : Int32)), .val (.int (2 : Int32))] []))
                    refine Gl.go ?_ (fun t k => XS.iload X0.here hx rfl (hb hby d1_197) rfl k)
                    show Gl _ _ _ _ (s₁.setTop (mkF m 199 #[.val (.ref a), .val (.int i), .val (.int to), .val (.int ((B i) &&& (255 : Int32))), .val (.int (4 : Int32)), .val (.int (128 : Int32)), .val (.int (191 : Int32)), .val (.int (1 : Int32)), .val (.int (2 : Int32))] [(.int (1 : Int32))]))
                    refine Gl.go ?_ (fun t k => XS.ifNo X0.here hx rfl (hb hby d1_199) rfl ((if0 _ _).trans (feq (by decide : ¬ ((1 : Int32) = (0 : Int32)))).1) k)
                    show Gl _ _ _ _ (s₁.setTop (mkF m 202 #[.val (.ref a), .val (.int i), .val (.int to), .val (.int ((B i) &&& (255 : Int32))), .val (.int (4 : Int32)), .val (.int (128 : Int32)), .val (.int (191 : Int32)), .val (.int (1 : Int32)), .val (.int (2 : Int32))] []))
                    refine Gl.go ?_ (fun t k => XS.iload X0.here hx rfl (hb hby d1_202) rfl k)
                    show Gl _ _ _ _ (s₁.setTop (mkF m 204 #[.val (.ref a), .val (.int i), .val (.int to), .val (.int ((B i) &&& (255 : Int32))), .val (.int (4 : Int32)), .val (.int (128 : Int32)), .val (.int (191 : Int32)), .val (.int (1 : Int32)), .val (.int (2 : Int32))] [(.int (2 : Int32))]))
                    refine Gl.go ?_ (fun t k => XS.iload X0.here hx rfl (hb hby d1_204) rfl k)
                    show Gl _ _ _ _ (s₁.setTop (mkF m 206 #[.val (.ref a), .val (.int i), .val (.int to), .val (.int ((B i) &&& (255 : Int32))), .val (.int (4 : Int32)), .val (.int (128 : Int32)), .val (.int (191 : Int32)), .val (.int (1 : Int32)), .val (.int (2 : Int32))] [(.int (4 : Int32)), (.int (2 : Int32))]))
                    refine Gl.go ?_ (fun t k => XS.icmpNo X0.here hx rfl (hb hby d1_206) rfl (tlt (by decide : (2 : Int32) < (4 : Int32))).2.1 k)
                    show Gl _ _ _ _ (s₁.setTop (mkF m 209 #[.val (.ref a), .val (.int i), .val (.int to), .val (.int ((B i) &&& (255 : Int32))), .val (.int (4 : Int32)), .val (.int (128 : Int32)), .val (.int (191 : Int32)), .val (.int (1 : Int32)), .val (.int (2 : Int32))] []))
                    refine Gl.go ?_ (fun t k => XS.aloadN X0.here hx rfl (hb hby d1_209) rfl rfl k)
                    show Gl _ _ _ _ (s₁.setTop (mkF m 210 #[.val (.ref a), .val (.int i), .val (.int to), .val (.int ((B i) &&& (255 : Int32))), .val (.int (4 : Int32)), .val (.int (128 : Int32)), .val (.int (191 : Int32)), .val (.int (1 : Int32)), .val (.int (2 : Int32))] [(.ref a)]))
                    refine Gl.go ?_ (fun t k => XS.iloadN X0.here hx rfl (hb hby d1_210) rfl k)
                    show Gl _ _ _ _ (s₁.setTop (mkF m 211 #[.val (.ref a), .val (.int i), .val (.int to), .val (.int ((B i) &&& (255 : Int32))), .val (.int (4 : Int32)), .val (.int (128 : Int32)), .val (.int (191 : Int32)), .val (.int (1 : Int32)), .val (.int (2 : Int32))] [(.int i), (.ref a)]))
                    refine Gl.go ?_ (fun t k => XS.iload X0.here hx rfl (hb hby d1_211) rfl k)
                    show Gl _ _ _ _ (s₁.setTop (mkF m 213 #[.val (.ref a), .val (.int i), .val (.int to), .val (.int ((B i) &&& (255 : Int32))), .val (.int (4 : Int32)), .val (.int (128 : Int32)), .val (.int (191 : Int32)), .val (.int (1 : Int32)), .val (.int (2 : Int32))] [(.int (2 : Int32)), (.int i), (.ref a)]))
                    refine Gl.go ?_ (fun t k => XS.iadd X0.here hx rfl (hb hby d1_213) rfl k)
                    show Gl _ _ _ _ (s₁.setTop (mkF m 214 #[.val (.ref a), .val (.int i), .val (.int to), .val (.int ((B i) &&& (255 : Int32))), .val (.int (4 : Int32)), .val (.int (128 : Int32)), .val (.int (191 : Int32)), .val (.int (1 : Int32)), .val (.int (2 : Int32))] [(.int (i + (2 : Int32))), (.ref a)]))
                    refine Gl.go ?_ (BA.rdB hB X0 hx hZ e0 hi2.1 hi2.2 (g := (mkF m 214 #[.val (.ref a), .val (.int i), .val (.int to), .val (.int ((B i) &&& (255 : Int32))), .val (.int (4 : Int32)), .val (.int (128 : Int32)), .val (.int (191 : Int32)), .val (.int (1 : Int32)), .val (.int (2 : Int32))] [(.int (i + (2 : Int32))), (.ref a)])) rfl rfl (hb hby d1_214))
                    show Gl _ _ _ _ (s₁.setTop (mkF m 215 #[.val (.ref a), .val (.int i), .val (.int to), .val (.int ((B i) &&& (255 : Int32))), .val (.int (4 : Int32)), .val (.int (128 : Int32)), .val (.int (191 : Int32)), .val (.int (1 : Int32)), .val (.int (2 : Int32))] [(.int (B (i + (2 : Int32))))]))
                    refine Gl.go ?_ (fun t k => XS.sipush X0.here hx rfl (hb hby d1_215) k)
                    show Gl _ _ _ _ (s₁.setTop (mkF m 218 #[.val (.ref a), .val (.int i), .val (.int to), .val (.int ((B i) &&& (255 : Int32))), .val (.int (4 : Int32)), .val (.int (128 : Int32)), .val (.int (191 : Int32)), .val (.int (1 : Int32)), .val (.int (2 : Int32))] [(.int (192 : Int32)), (.int (B (i + (2 : Int32))))]))
                    refine Gl.go ?_ (fun t k => XS.iand X0.here hx rfl (hb hby d1_218) rfl k)
                    show Gl _ _ _ _ (s₁.setTop (mkF m 219 #[.val (.ref a), .val (.int i), .val (.int to), .val (.int ((B i) &&& (255 : Int32))), .val (.int (4 : Int32)), .val (.int (128 : Int32)), .val (.int (191 : Int32)), .val (.int (1 : Int32)), .val (.int (2 : Int32))] [(.int ((B (i + (2 : Int32))) &&& (192 : Int32)))]))
                    refine Gl.go ?_ (fun t k => XS.sipush X0.here hx rfl (hb hby d1_219) k)
                    show Gl _ _ _ _ (s₁.setTop (mkF m 222 #[.val (.ref a), .val (.int i), .val (.int to), .val (.int ((B i) &&& (255 : Int32))), .val (.int (4 : Int32)), .val (.int (128 : Int32)), .val (.int (191 : Int32)), .val (.int (1 : Int32)), .val (.int (2 : Int32))] [(.int (128 : Int32)), (.int ((B (i + (2 : Int32))) &&& (192 : Int32)))]))
                    by_cases hc49 : ((B (i + (2 : Int32))) &&& (192 : Int32)) = (128 : Int32)
                    · refine Gl.go ?_ (fun t k => XS.icmpNo X0.here hx rfl (hb hby d1_222) rfl (teq hc49).2 k)
                      show Gl _ _ _ _ (s₁.setTop (mkF m 225 #[.val (.ref a), .val (.int i), .val (.int to), .val (.int ((B i) &&& (255 : Int32))), .val (.int (4 : Int32)), .val (.int (128 : Int32)), .val (.int (191 : Int32)), .val (.int (1 : Int32)), .val (.int (2 : Int32))] []))
                      refine Gl.go ?_ (fun t k => XS.iconst X0.here hx rfl (hb hby d1_225) k)
                      show Gl _ _ _ _ (s₁.setTop (mkF m 226 #[.val (.ref a), .val (.int i), .val (.int to), .val (.int ((B i) &&& (255 : Int32))), .val (.int (4 : Int32)), .val (.int (128 : Int32)), .val (.int (191 : Int32)), .val (.int (1 : Int32)), .val (.int (2 : Int32))] [(.int (1 : Int32))]))
                      refine Gl.go ?_ (fun t k => XS.goto X0.here hx rfl (pc0 := 226) (pc' := 230) rfl (hb hby d1_226) (by decide) (by decide) k)
                      show Gl _ _ _ _ (s₁.setTop (mkF m 230 #[.val (.ref a), .val (.int i), .val (.int to), .val (.int ((B i) &&& (255 : Int32))), .val (.int (4 : Int32)), .val (.int (128 : Int32)), .val (.int (191 : Int32)), .val (.int (1 : Int32)), .val (.int (2 : Int32))] [(.int (1 : Int32))]))
                      refine Gl.go ?_ (fun t k => XS.istore X0.here hx rfl (hb hby d1_230) rfl (l' := #[.val (.ref a), .val (.int i), .val (.int to), .val (.int ((B i) &&& (255 : Int32))), .val (.int (4 : Int32)), .val (.int (128 : Int32)), .val (.int (191 : Int32)), .val (.int (1 : Int32)), .val (.int (2 : Int32))]) rfl k)
                      show Gl _ _ _ _ (s₁.setTop (mkF m 232 #[.val (.ref a), .val (.int i), .val (.int to), .val (.int ((B i) &&& (255 : Int32))), .val (.int (4 : Int32)), .val (.int (128 : Int32)), .val (.int (191 : Int32)), .val (.int (1 : Int32)), .val (.int (2 : Int32))] []))
                      refine Gl.go ?_ (fun t k => XS.iinc X0.here hx rfl (hb hby d1_232) rfl (l' := #[.val (.ref a), .val (.int i), .val (.int to), .val (.int ((B i) &&& (255 : Int32))), .val (.int (4 : Int32)), .val (.int (128 : Int32)), .val (.int (191 : Int32)), .val (.int (1 : Int32)), .val (.int (3 : Int32))]) rfl k)
                      show Gl _ _ _ _ (s₁.setTop (mkF m 235 #[.val (.ref a), .val (.int i), .val (.int to), .val (.int ((B i) &&& (255 : Int32))), .val (.int (4 : Int32)), .val (.int (128 : Int32)), .val (.int (191 : Int32)), .val (.int (1 : Int32)), .val (.int (3 : Int32))] []))
                      refine Gl.go ?_ (fun t k => XS.goto X0.here hx rfl (pc0 := 235) (pc' := 197) rfl (hb hby d1_235) (by decide) (by decide) k)
                      show Gl _ _ _ _ (s₁.setTop (mkF m 197 #[.val (.ref a), .val (.int i), .val (.int to), .val (.int ((B i) &&& (255 : Int32))), .val (.int (4 : Int32)), .val (.int (128 : Int32)), .val (.int (191 : Int32)), .val (.int (1 : Int32)), .val (.int (3 : Int32))] []))
                      refine Gl.go ?_ (fun t k => XS.iload X0.here hx rfl (hb hby d1_197) rfl k)
                      show Gl _ _ _ _ (s₁.setTop (mkF m 199 #[.val (.ref a), .val (.int i), .val (.int to), .val (.int ((B i) &&& (255 : Int32))), .val (.int (4 : Int32)), .val (.int (128 : Int32)), .val (.int (191 : Int32)), .val (.int (1 : Int32)), .val (.int (3 : Int32))] [(.int (1 : Int32))]))
                      refine Gl.go ?_ (fun t k => XS.ifNo X0.here hx rfl (hb hby d1_199) rfl ((if0 _ _).trans (feq (by decide : ¬ ((1 : Int32) = (0 : Int32)))).1) k)
                      show Gl _ _ _ _ (s₁.setTop (mkF m 202 #[.val (.ref a), .val (.int i), .val (.int to), .val (.int ((B i) &&& (255 : Int32))), .val (.int (4 : Int32)), .val (.int (128 : Int32)), .val (.int (191 : Int32)), .val (.int (1 : Int32)), .val (.int (3 : Int32))] []))
                      refine Gl.go ?_ (fun t k => XS.iload X0.here hx rfl (hb hby d1_202) rfl k)
                      show Gl _ _ _ _ (s₁.setTop (mkF m 204 #[.val (.ref a), .val (.int i), .val (.int to), .val (.int ((B i) &&& (255 : Int32))), .val (.int (4 : Int32)), .val (.int (128 : Int32)), .val (.int (191 : Int32)), .val (.int (1 : Int32)), .val (.int (3 : Int32))] [(.int (3 : Int32))]))
                      refine Gl.go ?_ (fun t k => XS.iload X0.here hx rfl (hb hby d1_204) rfl k)
                      show Gl _ _ _ _ (s₁.setTop (mkF m 206 #[.val (.ref a), .val (.int i), .val (.int to), .val (.int ((B i) &&& (255 : Int32))), .val (.int (4 : Int32)), .val (.int (128 : Int32)), .val (.int (191 : Int32)), .val (.int (1 : Int32)), .val (.int (3 : Int32))] [(.int (4 : Int32)), (.int (3 : Int32))]))
                      refine Gl.go ?_ (fun t k => XS.icmpNo X0.here hx rfl (hb hby d1_206) rfl (tlt (by decide : (3 : Int32) < (4 : Int32))).2.1 k)
                      show Gl _ _ _ _ (s₁.setTop (mkF m 209 #[.val (.ref a), .val (.int i), .val (.int to), .val (.int ((B i) &&& (255 : Int32))), .val (.int (4 : Int32)), .val (.int (128 : Int32)), .val (.int (191 : Int32)), .val (.int (1 : Int32)), .val (.int (3 : Int32))] []))
                      refine Gl.go ?_ (fun t k => XS.aloadN X0.here hx rfl (hb hby d1_209) rfl rfl k)
                      show Gl _ _ _ _ (s₁.setTop (mkF m 210 #[.val (.ref a), .val (.int i), .val (.int to), .val (.int ((B i) &&& (255 : Int32))), .val (.int (4 : Int32)), .val (.int (128 : Int32)), .val (.int (191 : Int32)), .val (.int (1 : Int32)), .val (.int (3 : Int32))] [(.ref a)]))
                      refine Gl.go ?_ (fun t k => XS.iloadN X0.here hx rfl (hb hby d1_210) rfl k)
                      show Gl _ _ _ _ (s₁.setTop (mkF m 211 #[.val (.ref a), .val (.int i), .val (.int to), .val (.int ((B i) &&& (255 : Int32))), .val (.int (4 : Int32)), .val (.int (128 : Int32)), .val (.int (191 : Int32)), .val (.int (1 : Int32)), .val (.int (3 : Int32))] [(.int i), (.ref a)]))
                      refine Gl.go ?_ (fun t k => XS.iload X0.here hx rfl (hb hby d1_211) rfl k)
                      show Gl _ _ _ _ (s₁.setTop (mkF m 213 #[.val (.ref a), .val (.int i), .val (.int to), .val (.int ((B i) &&& (255 : Int32))), .val (.int (4 : Int32)), .val (.int (128 : Int32)), .val (.int (191 : Int32)), .val (.int (1 : Int32)), .val (.int (3 : Int32))] [(.int (3 : Int32)), (.int i), (.ref a)]))
                      refine Gl.go ?_ (fun t k => XS.iadd X0.here hx rfl (hb hby d1_213) rfl k)
                      show Gl _ _ _ _ (s₁.setTop (mkF m 214 #[.val (.ref a), .val (.int i), .val (.int to), .val (.int ((B i) &&& (255 : Int32))), .val (.int (4 : Int32)), .val (.int (128 : Int32)), .val (.int (191 : Int32)), .val (.int (1 : Int32)), .val (.int (3 : Int32))] [(.int (i + (3 : Int32))), (.ref a)]))
                      refine Gl.go ?_ (BA.rdB hB X0 hx hZ e0 hi3.1 hi3.2 (g := (mkF m 214 #[.val (.ref a), .val (.int i), .val (.int to), .val (.int ((B i) &&& (255 : Int32))), .val (.int (4 : Int32)), .val (.int (128 : Int32)), .val (.int (191 : Int32)), .val (.int (1 : Int32)), .val (.int (3 : Int32))] [(.int (i + (3 : Int32))), (.ref a)])) rfl rfl (hb hby d1_214))
                      show Gl _ _ _ _ (s₁.setTop (mkF m 215 #[.val (.ref a), .val (.int i), .val (.int to), .val (.int ((B i) &&& (255 : Int32))), .val (.int (4 : Int32)), .val (.int (128 : Int32)), .val (.int (191 : Int32)), .val (.int (1 : Int32)), .val (.int (3 : Int32))] [(.int (B (i + (3 : Int32))))]))
                      refine Gl.go ?_ (fun t k => XS.sipush X0.here hx rfl (hb hby d1_215) k)
                      show Gl _ _ _ _ (s₁.setTop (mkF m 218 #[.val (.ref a), .val (.int i), .val (.int to), .val (.int ((B i) &&& (255 : Int32))), .val (.int (4 : Int32)), .val (.int (128 : Int32)), .val (.int (191 : Int32)), .val (.int (1 : Int32)), .val (.int (3 : Int32))] [(.int (192 : Int32)), (.int (B (i + (3 : Int32))))]))
                      refine Gl.go ?_ (fun t k => XS.iand X0.here hx rfl (hb hby d1_218) rfl k)
                      show Gl _ _ _ _ (s₁.setTop (mkF m 219 #[.val (.ref a), .val (.int i), .val (.int to), .val (.int ((B i) &&& (255 : Int32))), .val (.int (4 : Int32)), .val (.int (128 : Int32)), .val (.int (191 : Int32)), .val (.int (1 : Int32)), .val (.int (3 : Int32))] [(.int ((B (i + (3 : Int32))) &&& (192 : Int32)))]))
                      refine Gl.go ?_ (fun t k => XS.sipush X0.here hx rfl (hb hby d1_219) k)
                      show Gl _ _ _ _ (s₁.setTop (mkF m 222 #[.val (.ref a), .val (.int i), .val (.int to), .val (.int ((B i) &&& (255 : Int32))), .val (.int (4 : Int32)), .val (.int (128 : Int32)), .val (.int (191 : Int32)), .val (.int (1 : Int32)), .val (.int (3 : Int32))] [(.int (128 : Int32)), (.int ((B (i + (3 : Int32))) &&& (192 : Int32)))]))
                      by_cases hc50 : ((B (i + (3 : Int32))) &&& (192 : Int32)) = (128 : Int32)
                      · refine Gl.go ?_ (fun t k => XS.icmpNo X0.here hx rfl (hb hby d1_222) rfl (teq hc50).2 k)
                        show Gl _ _ _ _ (s₁.setTop (mkF m 225 #[.val (.ref a), .val (.int i), .val (.int to), .val (.int ((B i) &&& (255 : Int32))), .val (.int (4 : Int32)), .val (.int (128 : Int32)), .val (.int (191 : Int32)), .val (.int (1 : Int32)), .val (.int (3 : Int32))] []))
                        refine Gl.go ?_ (fun t k => XS.iconst X0.here hx rfl (hb hby d1_225) k)
                        show Gl _ _ _ _ (s₁.setTop (mkF m 226 #[.val (.ref a), .val (.int i), .val (.int to), .val (.int ((B i) &&& (255 : Int32))), .val (.int (4 : Int32)), .val (.int (128 : Int32)), .val (.int (191 : Int32)), .val (.int (1 : Int32)), .val (.int (3 : Int32))] [(.int (1 : Int32))]))
                        refine Gl.go ?_ (fun t k => XS.goto X0.here hx rfl (pc0 := 226) (pc' := 230) rfl (hb hby d1_226) (by decide) (by decide) k)
                        show Gl _ _ _ _ (s₁.setTop (mkF m 230 #[.val (.ref a), .val (.int i), .val (.int to), .val (.int ((B i) &&& (255 : Int32))), .val (.int (4 : Int32)), .val (.int (128 : Int32)), .val (.int (191 : Int32)), .val (.int (1 : Int32)), .val (.int (3 : Int32))] [(.int (1 : Int32))]))
                        refine Gl.go ?_ (fun t k => XS.istore X0.here hx rfl (hb hby d1_230) rfl (l' := #[.val (.ref a), .val (.int i), .val (.int to), .val (.int ((B i) &&& (255 : Int32))), .val (.int (4 : Int32)), .val (.int (128 : Int32)), .val (.int (191 : Int32)), .val (.int (1 : Int32)), .val (.int (3 : Int32))]) rfl k)
                        show Gl _ _ _ _ (s₁.setTop (mkF m 232 #[.val (.ref a), .val (.int i), .val (.int to), .val (.int ((B i) &&& (255 : Int32))), .val (.int (4 : Int32)), .val (.int (128 : Int32)), .val (.int (191 : Int32)), .val (.int (1 : Int32)), .val (.int (3 : Int32))] []))
                        refine Gl.go ?_ (fun t k => XS.iinc X0.here hx rfl (hb hby d1_232) rfl (l' := #[.val (.ref a), .val (.int i), .val (.int to), .val (.int ((B i) &&& (255 : Int32))), .val (.int (4 : Int32)), .val (.int (128 : Int32)), .val (.int (191 : Int32)), .val (.int (1 : Int32)), .val (.int (4 : Int32))]) rfl k)
                        show Gl _ _ _ _ (s₁.setTop (mkF m 235 #[.val (.ref a), .val (.int i), .val (.int to), .val (.int ((B i) &&& (255 : Int32))), .val (.int (4 : Int32)), .val (.int (128 : Int32)), .val (.int (191 : Int32)), .val (.int (1 : Int32)), .val (.int (4 : Int32))] []))
                        refine Gl.go ?_ (fun t k => XS.goto X0.here hx rfl (pc0 := 235) (pc' := 197) rfl (hb hby d1_235) (by decide) (by decide) k)
                        show Gl _ _ _ _ (s₁.setTop (mkF m 197 #[.val (.ref a), .val (.int i), .val (.int to), .val (.int ((B i) &&& (255 : Int32))), .val (.int (4 : Int32)), .val (.int (128 : Int32)), .val (.int (191 : Int32)), .val (.int (1 : Int32)), .val (.int (4 : Int32))] []))
                        refine Gl.go ?_ (fun t k => XS.iload X0.here hx rfl (hb hby d1_197) rfl k)
                        show Gl _ _ _ _ (s₁.setTop (mkF m 199 #[.val (.ref a), .val (.int i), .val (.int to), .val (.int ((B i) &&& (255 : Int32))), .val (.int (4 : Int32)), .val (.int (128 : Int32)), .val (.int (191 : Int32)), .val (.int (1 : Int32)), .val (.int (4 : Int32))] [(.int (1 : Int32))]))
                        refine Gl.go ?_ (fun t k => XS.ifNo X0.here hx rfl (hb hby d1_199) rfl ((if0 _ _).trans (feq (by decide : ¬ ((1 : Int32) = (0 : Int32)))).1) k)
                        show Gl _ _ _ _ (s₁.setTop (mkF m 202 #[.val (.ref a), .val (.int i), .val (.int to), .val (.int ((B i) &&& (255 : Int32))), .val (.int (4 : Int32)), .val (.int (128 : Int32)), .val (.int (191 : Int32)), .val (.int (1 : Int32)), .val (.int (4 : Int32))] []))
                        refine Gl.go ?_ (fun t k => XS.iload X0.here hx rfl (hb hby d1_202) rfl k)
                        show Gl _ _ _ _ (s₁.setTop (mkF m 204 #[.val (.ref a), .val (.int i), .val (.int to), .val (.int ((B i) &&& (255 : Int32))), .val (.int (4 : Int32)), .val (.int (128 : Int32)), .val (.int (191 : Int32)), .val (.int (1 : Int32)), .val (.int (4 : Int32))] [(.int (4 : Int32))]))
                        refine Gl.go ?_ (fun t k => XS.iload X0.here hx rfl (hb hby d1_204) rfl k)
                        show Gl _ _ _ _ (s₁.setTop (mkF m 206 #[.val (.ref a), .val (.int i), .val (.int to), .val (.int ((B i) &&& (255 : Int32))), .val (.int (4 : Int32)), .val (.int (128 : Int32)), .val (.int (191 : Int32)), .val (.int (1 : Int32)), .val (.int (4 : Int32))] [(.int (4 : Int32)), (.int (4 : Int32))]))
                        refine Gl.go ?_ (fun t k => XS.icmpYes X0.here hx rfl (pc0 := 206) (pc' := 238) rfl (hb hby d1_206) rfl (flt (by decide : ¬ ((4 : Int32) < (4 : Int32)))).2.1 (by decide) (by decide) k)
                        show Gl _ _ _ _ (s₁.setTop (mkF m 238 #[.val (.ref a), .val (.int i), .val (.int to), .val (.int ((B i) &&& (255 : Int32))), .val (.int (4 : Int32)), .val (.int (128 : Int32)), .val (.int (191 : Int32)), .val (.int (1 : Int32)), .val (.int (4 : Int32))] []))
                        refine Gl.go ?_ (fun t k => XS.iload X0.here hx rfl (hb hby d1_238) rfl k)
                        show Gl _ _ _ _ (s₁.setTop (mkF m 240 #[.val (.ref a), .val (.int i), .val (.int to), .val (.int ((B i) &&& (255 : Int32))), .val (.int (4 : Int32)), .val (.int (128 : Int32)), .val (.int (191 : Int32)), .val (.int (1 : Int32)), .val (.int (4 : Int32))] [(.int (1 : Int32))]))
                        refine Gl.go ?_ (fun t k => XS.ifNo X0.here hx rfl (hb hby d1_240) rfl ((if0 _ _).trans (feq (by decide : ¬ ((1 : Int32) = (0 : Int32)))).1) k)
                        show Gl _ _ _ _ (s₁.setTop (mkF m 243 #[.val (.ref a), .val (.int i), .val (.int to), .val (.int ((B i) &&& (255 : Int32))), .val (.int (4 : Int32)), .val (.int (128 : Int32)), .val (.int (191 : Int32)), .val (.int (1 : Int32)), .val (.int (4 : Int32))] []))
                        refine Gl.go ?_ (fun t k => XS.iloadN X0.here hx rfl (hb hby d1_243) rfl k)
                        show Gl _ _ _ _ (s₁.setTop (mkF m 244 #[.val (.ref a), .val (.int i), .val (.int to), .val (.int ((B i) &&& (255 : Int32))), .val (.int (4 : Int32)), .val (.int (128 : Int32)), .val (.int (191 : Int32)), .val (.int (1 : Int32)), .val (.int (4 : Int32))] [(.int i)]))
                        refine Gl.go ?_ (fun t k => XS.iload X0.here hx rfl (hb hby d1_244) rfl k)
                        show Gl _ _ _ _ (s₁.setTop (mkF m 246 #[.val (.ref a), .val (.int i), .val (.int to), .val (.int ((B i) &&& (255 : Int32))), .val (.int (4 : Int32)), .val (.int (128 : Int32)), .val (.int (191 : Int32)), .val (.int (1 : Int32)), .val (.int (4 : Int32))] [(.int (4 : Int32)), (.int i)]))
                        refine Gl.go ?_ (fun t k => XS.iadd X0.here hx rfl (hb hby d1_246) rfl k)
                        show Gl _ _ _ _ (s₁.setTop (mkF m 247 #[.val (.ref a), .val (.int i), .val (.int to), .val (.int ((B i) &&& (255 : Int32))), .val (.int (4 : Int32)), .val (.int (128 : Int32)), .val (.int (191 : Int32)), .val (.int (1 : Int32)), .val (.int (4 : Int32))] [(.int (i + (4 : Int32)))]))
                        refine Gl.go ?_ (fun t k => XS.goto X0.here hx rfl (pc0 := 247) (pc' := 251) rfl (hb hby d1_247) (by decide) (by decide) k)
                        show Gl _ _ _ _ (s₁.setTop (mkF m 251 #[.val (.ref a), .val (.int i), .val (.int to), .val (.int ((B i) &&& (255 : Int32))), .val (.int (4 : Int32)), .val (.int (128 : Int32)), .val (.int (191 : Int32)), .val (.int (1 : Int32)), .val (.int (4 : Int32))] [(.int (i + (4 : Int32)))]))
                        obtain ⟨fs, hr, hrun, hended, hW, hsame⟩ := X0.leave (v := some (.int (i + (4 : Int32)))) (fun h => by rw [Bd.returns] at h; cases h) (BodyLoose.notSynchronized Bd)
                        exact Gl.mk ⟨_, _, retI X0 hx Bd.returns (hb hby d1_251) hr, hrun, hended, _, _, rfl, ⟨congrArg (fun z => some (Value.int z)) ((if_neg hc30).trans ((if_pos hc31).trans ((if_pos hc32).trans ((if_neg hc33).trans ((if_neg hc34).trans ((if_neg hc40).trans ((if_neg hc46).trans ((if_neg hc47).trans ((if_neg hc48).trans ((if_pos hc49).trans ((if_pos hc50).trans (rfl)))))))))))).symm, rfl, e0⟩, ⟨_, rfl⟩, hW, hsame.mono (by decide) (by decide)⟩
                      · refine Gl.go ?_ (fun t k => XS.icmpYes X0.here hx rfl (pc0 := 222) (pc' := 229) rfl (hb hby d1_222) rfl (feq hc50).2 (by decide) (by decide) k)
                        show Gl _ _ _ _ (s₁.setTop (mkF m 229 #[.val (.ref a), .val (.int i), .val (.int to), .val (.int ((B i) &&& (255 : Int32))), .val (.int (4 : Int32)), .val (.int (128 : Int32)), .val (.int (191 : Int32)), .val (.int (1 : Int32)), .val (.int (3 : Int32))] []))
                        refine Gl.go ?_ (fun t k => XS.iconst X0.here hx rfl (hb hby d1_229) k)
                        show Gl _ _ _ _ (s₁.setTop (mkF m 230 #[.val (.ref a), .val (.int i), .val (.int to), .val (.int ((B i) &&& (255 : Int32))), .val (.int (4 : Int32)), .val (.int (128 : Int32)), .val (.int (191 : Int32)), .val (.int (1 : Int32)), .val (.int (3 : Int32))] [(.int (0 : Int32))]))
                        refine Gl.go ?_ (fun t k => XS.istore X0.here hx rfl (hb hby d1_230) rfl (l' := #[.val (.ref a), .val (.int i), .val (.int to), .val (.int ((B i) &&& (255 : Int32))), .val (.int (4 : Int32)), .val (.int (128 : Int32)), .val (.int (191 : Int32)), .val (.int (0 : Int32)), .val (.int (3 : Int32))]) rfl k)
                        show Gl _ _ _ _ (s₁.setTop (mkF m 232 #[.val (.ref a), .val (.int i), .val (.int to), .val (.int ((B i) &&& (255 : Int32))), .val (.int (4 : Int32)), .val (.int (128 : Int32)), .val (.int (191 : Int32)), .val (.int (0 : Int32)), .val (.int (3 : Int32))] []))
                        refine Gl.go ?_ (fun t k => XS.iinc X0.here hx rfl (hb hby d1_232) rfl (l' := #[.val (.ref a), .val (.int i), .val (.int to), .val (.int ((B i) &&& (255 : Int32))), .val (.int (4 : Int32)), .val (.int (128 : Int32)), .val (.int (191 : Int32)), .val (.int (0 : Int32)), .val (.int (4 : Int32))]) rfl k)
                        show Gl _ _ _ _ (s₁.setTop (mkF m 235 #[.val (.ref a), .val (.int i), .val (.int to), .val (.int ((B i) &&& (255 : Int32))), .val (.int (4 : Int32)), .val (.int (128 : Int32)), .val (.int (191 : Int32)), .val (.int (0 : Int32)), .val (.int (4 : Int32))] []))
                        refine Gl.go ?_ (fun t k => XS.goto X0.here hx rfl (pc0 := 235) (pc' := 197) rfl (hb hby d1_235) (by decide) (by decide) k)
                        show Gl _ _ _ _ (s₁.setTop (mkF m 197 #[.val (.ref a), .val (.int i), .val (.int to), .val (.int ((B i) &&& (255 : Int32))), .val (.int (4 : Int32)), .val (.int (128 : Int32)), .val (.int (191 : Int32)), .val (.int (0 : Int32)), .val (.int (4 : Int32))] []))
                        refine Gl.go ?_ (fun t k => XS.iload X0.here hx rfl (hb hby d1_197) rfl k)
                        show Gl _ _ _ _ (s₁.setTop (mkF m 199 #[.val (.ref a), .val (.int i), .val (.int to), .val (.int ((B i) &&& (255 : Int32))), .val (.int (4 : Int32)), .val (.int (128 : Int32)), .val (.int (191 : Int32)), .val (.int (0 : Int32)), .val (.int (4 : Int32))] [(.int (0 : Int32))]))
                        refine Gl.go ?_ (fun t k => XS.ifYes X0.here hx rfl (pc0 := 199) (pc' := 238) rfl (hb hby d1_199) rfl ((if0 _ _).trans (teq (by decide : (0 : Int32) = (0 : Int32))).1) (by decide) (by decide) k)
                        show Gl _ _ _ _ (s₁.setTop (mkF m 238 #[.val (.ref a), .val (.int i), .val (.int to), .val (.int ((B i) &&& (255 : Int32))), .val (.int (4 : Int32)), .val (.int (128 : Int32)), .val (.int (191 : Int32)), .val (.int (0 : Int32)), .val (.int (4 : Int32))] []))
                        refine Gl.go ?_ (fun t k => XS.iload X0.here hx rfl (hb hby d1_238) rfl k)
                        show Gl _ _ _ _ (s₁.setTop (mkF m 240 #[.val (.ref a), .val (.int i), .val (.int to), .val (.int ((B i) &&& (255 : Int32))), .val (.int (4 : Int32)), .val (.int (128 : Int32)), .val (.int (191 : Int32)), .val (.int (0 : Int32)), .val (.int (4 : Int32))] [(.int (0 : Int32))]))
                        refine Gl.go ?_ (fun t k => XS.ifYes X0.here hx rfl (pc0 := 240) (pc' := 250) rfl (hb hby d1_240) rfl ((if0 _ _).trans (teq (by decide : (0 : Int32) = (0 : Int32))).1) (by decide) (by decide) k)
                        show Gl _ _ _ _ (s₁.setTop (mkF m 250 #[.val (.ref a), .val (.int i), .val (.int to), .val (.int ((B i) &&& (255 : Int32))), .val (.int (4 : Int32)), .val (.int (128 : Int32)), .val (.int (191 : Int32)), .val (.int (0 : Int32)), .val (.int (4 : Int32))] []))
                        refine Gl.go ?_ (fun t k => XS.iconst X0.here hx rfl (hb hby d1_250) k)
                        show Gl _ _ _ _ (s₁.setTop (mkF m 251 #[.val (.ref a), .val (.int i), .val (.int to), .val (.int ((B i) &&& (255 : Int32))), .val (.int (4 : Int32)), .val (.int (128 : Int32)), .val (.int (191 : Int32)), .val (.int (0 : Int32)), .val (.int (4 : Int32))] [(.int (-1 : Int32))]))
                        obtain ⟨fs, hr, hrun, hended, hW, hsame⟩ := X0.leave (v := some (.int (-1 : Int32))) (fun h => by rw [Bd.returns] at h; cases h) (BodyLoose.notSynchronized Bd)
                        exact Gl.mk ⟨_, _, retI X0 hx Bd.returns (hb hby d1_251) hr, hrun, hended, _, _, rfl, ⟨congrArg (fun z => some (Value.int z)) ((if_neg hc30).trans ((if_pos hc31).trans ((if_pos hc32).trans ((if_neg hc33).trans ((if_neg hc34).trans ((if_neg hc40).trans ((if_neg hc46).trans ((if_neg hc47).trans ((if_neg hc48).trans ((if_pos hc49).trans ((if_neg hc50).trans (rfl)))))))))))).symm, rfl, e0⟩, ⟨_, rfl⟩, hW, hsame.mono (by decide) (by decide)⟩
                    · refine Gl.go ?_ (fun t k => XS.icmpYes X0.here hx rfl (pc0 := 222) (pc' := 229) rfl (hb hby d1_222) rfl (feq hc49).2 (by decide) (by decide) k)
                      show Gl _ _ _ _ (s₁.setTop (mkF m 229 #[.val (.ref a), .val (.int i), .val (.int to), .val (.int ((B i) &&& (255 : Int32))), .val (.int (4 : Int32)), .val (.int (128 : Int32)), .val (.int (191 : Int32)), .val (.int (1 : Int32)), .val (.int (2 : Int32))] []))
                      refine Gl.go ?_ (fun t k => XS.iconst X0.here hx rfl (hb hby d1_229) k)
                      show Gl _ _ _ _ (s₁.setTop (mkF m 230 #[.val (.ref a), .val (.int i), .val (.int to), .val (.int ((B i) &&& (255 : Int32))), .val (.int (4 : Int32)), .val (.int (128 : Int32)), .val (.int (191 : Int32)), .val (.int (1 : Int32)), .val (.int (2 : Int32))] [(.int (0 : Int32))]))
                      refine Gl.go ?_ (fun t k => XS.istore X0.here hx rfl (hb hby d1_230) rfl (l' := #[.val (.ref a), .val (.int i), .val (.int to), .val (.int ((B i) &&& (255 : Int32))), .val (.int (4 : Int32)), .val (.int (128 : Int32)), .val (.int (191 : Int32)), .val (.int (0 : Int32)), .val (.int (2 : Int32))]) rfl k)
                      show Gl _ _ _ _ (s₁.setTop (mkF m 232 #[.val (.ref a), .val (.int i), .val (.int to), .val (.int ((B i) &&& (255 : Int32))), .val (.int (4 : Int32)), .val (.int (128 : Int32)), .val (.int (191 : Int32)), .val (.int (0 : Int32)), .val (.int (2 : Int32))] []))
                      refine Gl.go ?_ (fun t k => XS.iinc X0.here hx rfl (hb hby d1_232) rfl (l' := #[.val (.ref a), .val (.int i), .val (.int to), .val (.int ((B i) &&& (255 : Int32))), .val (.int (4 : Int32)), .val (.int (128 : Int32)), .val (.int (191 : Int32)), .val (.int (0 : Int32)), .val (.int (3 : Int32))]) rfl k)
                      show Gl _ _ _ _ (s₁.setTop (mkF m 235 #[.val (.ref a), .val (.int i), .val (.int to), .val (.int ((B i) &&& (255 : Int32))), .val (.int (4 : Int32)), .val (.int (128 : Int32)), .val (.int (191 : Int32)), .val (.int (0 : Int32)), .val (.int (3 : Int32))] []))
                      refine Gl.go ?_ (fun t k => XS.goto X0.here hx rfl (pc0 := 235) (pc' := 197) rfl (hb hby d1_235) (by decide) (by decide) k)
                      show Gl _ _ _ _ (s₁.setTop (mkF m 197 #[.val (.ref a), .val (.int i), .val (.int to), .val (.int ((B i) &&& (255 : Int32))), .val (.int (4 : Int32)), .val (.int (128 : Int32)), .val (.int (191 : Int32)), .val (.int (0 : Int32)), .val (.int (3 : Int32))] []))
                      refine Gl.go ?_ (fun t k => XS.iload X0.here hx rfl (hb hby d1_197) rfl k)
                      show Gl _ _ _ _ (s₁.setTop (mkF m 199 #[.val (.ref a), .val (.int i), .val (.int to), .val (.int ((B i) &&& (255 : Int32))), .val (.int (4 : Int32)), .val (.int (128 : Int32)), .val (.int (191 : Int32)), .val (.int (0 : Int32)), .val (.int (3 : Int32))] [(.int (0 : Int32))]))
                      refine Gl.go ?_ (fun t k => XS.ifYes X0.here hx rfl (pc0 := 199) (pc' := 238) rfl (hb hby d1_199) rfl ((if0 _ _).trans (teq (by decide : (0 : Int32) = (0 : Int32))).1) (by decide) (by decide) k)
                      show Gl _ _ _ _ (s₁.setTop (mkF m 238 #[.val (.ref a), .val (.int i), .val (.int to), .val (.int ((B i) &&& (255 : Int32))), .val (.int (4 : Int32)), .val (.int (128 : Int32)), .val (.int (191 : Int32)), .val (.int (0 : Int32)), .val (.int (3 : Int32))] []))
                      refine Gl.go ?_ (fun t k => XS.iload X0.here hx rfl (hb hby d1_238) rfl k)
                      show Gl _ _ _ _ (s₁.setTop (mkF m 240 #[.val (.ref a), .val (.int i), .val (.int to), .val (.int ((B i) &&& (255 : Int32))), .val (.int (4 : Int32)), .val (.int (128 : Int32)), .val (.int (191 : Int32)), .val (.int (0 : Int32)), .val (.int (3 : Int32))] [(.int (0 : Int32))]))
                      refine Gl.go ?_ (fun t k => XS.ifYes X0.here hx rfl (pc0 := 240) (pc' := 250) rfl (hb hby d1_240) rfl ((if0 _ _).trans (teq (by decide : (0 : Int32) = (0 : Int32))).1) (by decide) (by decide) k)
                      show Gl _ _ _ _ (s₁.setTop (mkF m 250 #[.val (.ref a), .val (.int i), .val (.int to), .val (.int ((B i) &&& (255 : Int32))), .val (.int (4 : Int32)), .val (.int (128 : Int32)), .val (.int (191 : Int32)), .val (.int (0 : Int32)), .val (.int (3 : Int32))] []))
                      refine Gl.go ?_ (fun t k => XS.iconst X0.here hx rfl (hb hby d1_250) k)
                      show Gl _ _ _ _ (s₁.setTop (mkF m 251 #[.val (.ref a), .val (.int i), .val (.int to), .val (.int ((B i) &&& (255 : Int32))), .val (.int (4 : Int32)), .val (.int (128 : Int32)), .val (.int (191 : Int32)), .val (.int (0 : Int32)), .val (.int (3 : Int32))] [(.int (-1 : Int32))]))
                      obtain ⟨fs, hr, hrun, hended, hW, hsame⟩ := X0.leave (v := some (.int (-1 : Int32))) (fun h => by rw [Bd.returns] at h; cases h) (BodyLoose.notSynchronized Bd)
                      exact Gl.mk ⟨_, _, retI X0 hx Bd.returns (hb hby d1_251) hr, hrun, hended, _, _, rfl, ⟨congrArg (fun z => some (Value.int z)) ((if_neg hc30).trans ((if_pos hc31).trans ((if_pos hc32).trans ((if_neg hc33).trans ((if_neg hc34).trans ((if_neg hc40).trans ((if_neg hc46).trans ((if_neg hc47).trans ((if_neg hc48).trans ((if_neg hc49).trans (rfl))))))))))).symm, rfl, e0⟩, ⟨_, rfl⟩, hW, hsame.mono (by decide) (by decide)⟩
      · refine Gl.go ?_ (fun t k => XS.icmpNo X0.here hx rfl (hb hby d1_52) rfl (flt hc32).2.2.1 k)
        show Gl _ _ _ _ (s₁.setTop (mkF m 55 #[.val (.ref a), .val (.int i), .val (.int to), .val (.int ((B i) &&& (255 : Int32))), .val (.int (0 : Int32)), .val (.int (128 : Int32)), .val (.int (191 : Int32)), .unset, .unset] []))
        refine Gl.go ?_ (fun t k => XS.iconst X0.here hx rfl (hb hby d1_55) k)
        show Gl _ _ _ _ (s₁.setTop (mkF m 56 #[.val (.ref a), .val (.int i), .val (.int to), .val (.int ((B i) &&& (255 : Int32))), .val (.int (0 : Int32)), .val (.int (128 : Int32)), .val (.int (191 : Int32)), .unset, .unset] [(.int (3 : Int32))]))
        refine Gl.go ?_ (fun t k => XS.istore X0.here hx rfl (hb hby d1_56) rfl (l' := #[.val (.ref a), .val (.int i), .val (.int to), .val (.int ((B i) &&& (255 : Int32))), .val (.int (3 : Int32)), .val (.int (128 : Int32)), .val (.int (191 : Int32)), .unset, .unset]) rfl k)
        show Gl _ _ _ _ (s₁.setTop (mkF m 58 #[.val (.ref a), .val (.int i), .val (.int to), .val (.int ((B i) &&& (255 : Int32))), .val (.int (3 : Int32)), .val (.int (128 : Int32)), .val (.int (191 : Int32)), .unset, .unset] []))
        refine Gl.go ?_ (fun t k => XS.iloadN X0.here hx rfl (hb hby d1_58) rfl k)
        show Gl _ _ _ _ (s₁.setTop (mkF m 59 #[.val (.ref a), .val (.int i), .val (.int to), .val (.int ((B i) &&& (255 : Int32))), .val (.int (3 : Int32)), .val (.int (128 : Int32)), .val (.int (191 : Int32)), .unset, .unset] [(.int ((B i) &&& (255 : Int32)))]))
        refine Gl.go ?_ (fun t k => XS.sipush X0.here hx rfl (hb hby d1_59) k)
        show Gl _ _ _ _ (s₁.setTop (mkF m 62 #[.val (.ref a), .val (.int i), .val (.int to), .val (.int ((B i) &&& (255 : Int32))), .val (.int (3 : Int32)), .val (.int (128 : Int32)), .val (.int (191 : Int32)), .unset, .unset] [(.int (224 : Int32)), (.int ((B i) &&& (255 : Int32)))]))
        by_cases hc51 : ((B i) &&& (255 : Int32)) = (224 : Int32)
        · refine Gl.go ?_ (fun t k => XS.icmpNo X0.here hx rfl (hb hby d1_62) rfl (teq hc51).2 k)
          show Gl _ _ _ _ (s₁.setTop (mkF m 65 #[.val (.ref a), .val (.int i), .val (.int to), .val (.int ((B i) &&& (255 : Int32))), .val (.int (3 : Int32)), .val (.int (128 : Int32)), .val (.int (191 : Int32)), .unset, .unset] []))
          refine Gl.go ?_ (fun t k => XS.sipush X0.here hx rfl (hb hby d1_65) k)
          show Gl _ _ _ _ (s₁.setTop (mkF m 68 #[.val (.ref a), .val (.int i), .val (.int to), .val (.int ((B i) &&& (255 : Int32))), .val (.int (3 : Int32)), .val (.int (128 : Int32)), .val (.int (191 : Int32)), .unset, .unset] [(.int (160 : Int32))]))
          refine Gl.go ?_ (fun t k => XS.goto X0.here hx rfl (pc0 := 68) (pc' := 73) rfl (hb hby d1_68) (by decide) (by decide) k)
          show Gl _ _ _ _ (s₁.setTop (mkF m 73 #[.val (.ref a), .val (.int i), .val (.int to), .val (.int ((B i) &&& (255 : Int32))), .val (.int (3 : Int32)), .val (.int (128 : Int32)), .val (.int (191 : Int32)), .unset, .unset] [(.int (160 : Int32))]))
          refine Gl.go ?_ (fun t k => XS.istore X0.here hx rfl (hb hby d1_73) rfl (l' := #[.val (.ref a), .val (.int i), .val (.int to), .val (.int ((B i) &&& (255 : Int32))), .val (.int (3 : Int32)), .val (.int (160 : Int32)), .val (.int (191 : Int32)), .unset, .unset]) rfl k)
          show Gl _ _ _ _ (s₁.setTop (mkF m 75 #[.val (.ref a), .val (.int i), .val (.int to), .val (.int ((B i) &&& (255 : Int32))), .val (.int (3 : Int32)), .val (.int (160 : Int32)), .val (.int (191 : Int32)), .unset, .unset] []))
          refine Gl.go ?_ (fun t k => XS.iloadN X0.here hx rfl (hb hby d1_75) rfl k)
          show Gl _ _ _ _ (s₁.setTop (mkF m 76 #[.val (.ref a), .val (.int i), .val (.int to), .val (.int ((B i) &&& (255 : Int32))), .val (.int (3 : Int32)), .val (.int (160 : Int32)), .val (.int (191 : Int32)), .unset, .unset] [(.int ((B i) &&& (255 : Int32)))]))
          refine Gl.go ?_ (fun t k => XS.sipush X0.here hx rfl (hb hby d1_76) k)
          show Gl _ _ _ _ (s₁.setTop (mkF m 79 #[.val (.ref a), .val (.int i), .val (.int to), .val (.int ((B i) &&& (255 : Int32))), .val (.int (3 : Int32)), .val (.int (160 : Int32)), .val (.int (191 : Int32)), .unset, .unset] [(.int (237 : Int32)), (.int ((B i) &&& (255 : Int32)))]))
          refine Gl.go ?_ (fun t k => XS.icmpYes X0.here hx rfl (pc0 := 79) (pc' := 88) rfl (hb hby d1_79) rfl (feq (iv_neq' (k := 237) rfl (by have q0 := iv_nlt (k := 194) rfl hc30; have q1 := iv_gt (k := 223) rfl hc31; have q2 := iv_ngt (k := 239) rfl hc32; have q3 := iv_eq (k := 224) rfl hc51; omega) : ¬ (((B i) &&& (255 : Int32)) = (237 : Int32)))).2 (by decide) (by decide) k)
          show Gl _ _ _ _ (s₁.setTop (mkF m 88 #[.val (.ref a), .val (.int i), .val (.int to), .val (.int ((B i) &&& (255 : Int32))), .val (.int (3 : Int32)), .val (.int (160 : Int32)), .val (.int (191 : Int32)), .unset, .unset] []))
          refine Gl.go ?_ (fun t k => XS.iload X0.here hx rfl (hb hby d1_88) rfl k)
          show Gl _ _ _ _ (s₁.setTop (mkF m 90 #[.val (.ref a), .val (.int i), .val (.int to), .val (.int ((B i) &&& (255 : Int32))), .val (.int (3 : Int32)), .val (.int (160 : Int32)), .val (.int (191 : Int32)), .unset, .unset] [(.int (191 : Int32))]))
          refine Gl.go ?_ (fun t k => XS.istore X0.here hx rfl (hb hby d1_90) rfl (l' := #[.val (.ref a), .val (.int i), .val (.int to), .val (.int ((B i) &&& (255 : Int32))), .val (.int (3 : Int32)), .val (.int (160 : Int32)), .val (.int (191 : Int32)), .unset, .unset]) rfl k)
          show Gl _ _ _ _ (s₁.setTop (mkF m 92 #[.val (.ref a), .val (.int i), .val (.int to), .val (.int ((B i) &&& (255 : Int32))), .val (.int (3 : Int32)), .val (.int (160 : Int32)), .val (.int (191 : Int32)), .unset, .unset] []))
          refine Gl.go ?_ (fun t k => XS.goto X0.here hx rfl (pc0 := 92) (pc' := 146) rfl (hb hby d1_92) (by decide) (by decide) k)
          show Gl _ _ _ _ (s₁.setTop (mkF m 146 #[.val (.ref a), .val (.int i), .val (.int to), .val (.int ((B i) &&& (255 : Int32))), .val (.int (3 : Int32)), .val (.int (160 : Int32)), .val (.int (191 : Int32)), .unset, .unset] []))
          refine Gl.go ?_ (fun t k => XS.iload X0.here hx rfl (hb hby d1_146) rfl k)
          show Gl _ _ _ _ (s₁.setTop (mkF m 148 #[.val (.ref a), .val (.int i), .val (.int to), .val (.int ((B i) &&& (255 : Int32))), .val (.int (3 : Int32)), .val (.int (160 : Int32)), .val (.int (191 : Int32)), .unset, .unset] [(.int (3 : Int32))]))
          refine Gl.go ?_ (fun t k => XS.ifNo X0.here hx rfl (hb hby d1_148) rfl ((if0 _ _).trans (tlt (by decide : (0 : Int32) < (3 : Int32))).2.2.2) k)
          show Gl _ _ _ _ (s₁.setTop (mkF m 151 #[.val (.ref a), .val (.int i), .val (.int to), .val (.int ((B i) &&& (255 : Int32))), .val (.int (3 : Int32)), .val (.int (160 : Int32)), .val (.int (191 : Int32)), .unset, .unset] []))
          refine Gl.go ?_ (fun t k => XS.iloadN X0.here hx rfl (hb hby d1_151) rfl k)
          show Gl _ _ _ _ (s₁.setTop (mkF m 152 #[.val (.ref a), .val (.int i), .val (.int to), .val (.int ((B i) &&& (255 : Int32))), .val (.int (3 : Int32)), .val (.int (160 : Int32)), .val (.int (191 : Int32)), .unset, .unset] [(.int to)]))
          refine Gl.go ?_ (fun t k => XS.iloadN X0.here hx rfl (hb hby d1_152) rfl k)
          show Gl _ _ _ _ (s₁.setTop (mkF m 153 #[.val (.ref a), .val (.int i), .val (.int to), .val (.int ((B i) &&& (255 : Int32))), .val (.int (3 : Int32)), .val (.int (160 : Int32)), .val (.int (191 : Int32)), .unset, .unset] [(.int i), (.int to)]))
          refine Gl.go ?_ (fun t k => XS.isub X0.here hx rfl (hb hby d1_153) rfl k)
          show Gl _ _ _ _ (s₁.setTop (mkF m 154 #[.val (.ref a), .val (.int i), .val (.int to), .val (.int ((B i) &&& (255 : Int32))), .val (.int (3 : Int32)), .val (.int (160 : Int32)), .val (.int (191 : Int32)), .unset, .unset] [(.int (to - i))]))
          refine Gl.go ?_ (fun t k => XS.iload X0.here hx rfl (hb hby d1_154) rfl k)
          show Gl _ _ _ _ (s₁.setTop (mkF m 156 #[.val (.ref a), .val (.int i), .val (.int to), .val (.int ((B i) &&& (255 : Int32))), .val (.int (3 : Int32)), .val (.int (160 : Int32)), .val (.int (191 : Int32)), .unset, .unset] [(.int (3 : Int32)), (.int (to - i))]))
          by_cases hc52 : (to - i) < (3 : Int32)
          · refine Gl.go ?_ (fun t k => XS.icmpYes X0.here hx rfl (pc0 := 156) (pc' := 191) rfl (hb hby d1_156) rfl (tlt hc52).1 (by decide) (by decide) k)
            show Gl _ _ _ _ (s₁.setTop (mkF m 191 #[.val (.ref a), .val (.int i), .val (.int to), .val (.int ((B i) &&& (255 : Int32))), .val (.int (3 : Int32)), .val (.int (160 : Int32)), .val (.int (191 : Int32)), .unset, .unset] []))
            refine Gl.go ?_ (fun t k => XS.iconst X0.here hx rfl (hb hby d1_191) k)
            show Gl _ _ _ _ (s₁.setTop (mkF m 192 #[.val (.ref a), .val (.int i), .val (.int to), .val (.int ((B i) &&& (255 : Int32))), .val (.int (3 : Int32)), .val (.int (160 : Int32)), .val (.int (191 : Int32)), .unset, .unset] [(.int (0 : Int32))]))
            refine Gl.go ?_ (fun t k => XS.istore X0.here hx rfl (hb hby d1_192) rfl (l' := #[.val (.ref a), .val (.int i), .val (.int to), .val (.int ((B i) &&& (255 : Int32))), .val (.int (3 : Int32)), .val (.int (160 : Int32)), .val (.int (191 : Int32)), .val (.int (0 : Int32)), .unset]) rfl k)
            show Gl _ _ _ _ (s₁.setTop (mkF m 194 #[.val (.ref a), .val (.int i), .val (.int to), .val (.int ((B i) &&& (255 : Int32))), .val (.int (3 : Int32)), .val (.int (160 : Int32)), .val (.int (191 : Int32)), .val (.int (0 : Int32)), .unset] []))
            refine Gl.go ?_ (fun t k => XS.iconst X0.here hx rfl (hb hby d1_194) k)
            show Gl _ _ _ _ (s₁.setTop (mkF m 195 #[.val (.ref a), .val (.int i), .val (.int to), .val (.int ((B i) &&& (255 : Int32))), .val (.int (3 : Int32)), .val (.int (160 : Int32)), .val (.int (191 : Int32)), .val (.int (0 : Int32)), .unset] [(.int (2 : Int32))]))
            refine Gl.go ?_ (fun t k => XS.istore X0.here hx rfl (hb hby d1_195) rfl (l' := #[.val (.ref a), .val (.int i), .val (.int to), .val (.int ((B i) &&& (255 : Int32))), .val (.int (3 : Int32)), .val (.int (160 : Int32)), .val (.int (191 : Int32)), .val (.int (0 : Int32)), .val (.int (2 : Int32))]) rfl k)
            show Gl _ _ _ _ (s₁.setTop (mkF m 197 #[.val (.ref a), .val (.int i), .val (.int to), .val (.int ((B i) &&& (255 : Int32))), .val (.int (3 : Int32)), .val (.int (160 : Int32)), .val (.int (191 : Int32)), .val (.int (0 : Int32)), .val (.int (2 : Int32))] []))
            refine Gl.go ?_ (fun t k => XS.iload X0.here hx rfl (hb hby d1_197) rfl k)
            show Gl _ _ _ _ (s₁.setTop (mkF m 199 #[.val (.ref a), .val (.int i), .val (.int to), .val (.int ((B i) &&& (255 : Int32))), .val (.int (3 : Int32)), .val (.int (160 : Int32)), .val (.int (191 : Int32)), .val (.int (0 : Int32)), .val (.int (2 : Int32))] [(.int (0 : Int32))]))
            refine Gl.go ?_ (fun t k => XS.ifYes X0.here hx rfl (pc0 := 199) (pc' := 238) rfl (hb hby d1_199) rfl ((if0 _ _).trans (teq (by decide : (0 : Int32) = (0 : Int32))).1) (by decide) (by decide) k)
            show Gl _ _ _ _ (s₁.setTop (mkF m 238 #[.val (.ref a), .val (.int i), .val (.int to), .val (.int ((B i) &&& (255 : Int32))), .val (.int (3 : Int32)), .val (.int (160 : Int32)), .val (.int (191 : Int32)), .val (.int (0 : Int32)), .val (.int (2 : Int32))] []))
            refine Gl.go ?_ (fun t k => XS.iload X0.here hx rfl (hb hby d1_238) rfl k)
            show Gl _ _ _ _ (s₁.setTop (mkF m 240 #[.val (.ref a), .val (.int i), .val (.int to), .val (.int ((B i) &&& (255 : Int32))), .val (.int (3 : Int32)), .val (.int (160 : Int32)), .val (.int (191 : Int32)), .val (.int (0 : Int32)), .val (.int (2 : Int32))] [(.int (0 : Int32))]))
            refine Gl.go ?_ (fun t k => XS.ifYes X0.here hx rfl (pc0 := 240) (pc' := 250) rfl (hb hby d1_240) rfl ((if0 _ _).trans (teq (by decide : (0 : Int32) = (0 : Int32))).1) (by decide) (by decide) k)
            show Gl _ _ _ _ (s₁.setTop (mkF m 250 #[.val (.ref a), .val (.int i), .val (.int to), .val (.int ((B i) &&& (255 : Int32))), .val (.int (3 : Int32)), .val (.int (160 : Int32)), .val (.int (191 : Int32)), .val (.int (0 : Int32)), .val (.int (2 : Int32))] []))
            refine Gl.go ?_ (fun t k => XS.iconst X0.here hx rfl (hb hby d1_250) k)
            show Gl _ _ _ _ (s₁.setTop (mkF m 251 #[.val (.ref a), .val (.int i), .val (.int to), .val (.int ((B i) &&& (255 : Int32))), .val (.int (3 : Int32)), .val (.int (160 : Int32)), .val (.int (191 : Int32)), .val (.int (0 : Int32)), .val (.int (2 : Int32))] [(.int (-1 : Int32))]))
            obtain ⟨fs, hr, hrun, hended, hW, hsame⟩ := X0.leave (v := some (.int (-1 : Int32))) (fun h => by rw [Bd.returns] at h; cases h) (BodyLoose.notSynchronized Bd)
            exact Gl.mk ⟨_, _, retI X0 hx Bd.returns (hb hby d1_251) hr, hrun, hended, _, _, rfl, ⟨congrArg (fun z => some (Value.int z)) ((if_neg hc30).trans ((if_pos hc31).trans ((if_neg hc32).trans ((if_pos hc51).trans ((if_pos hc52).trans (rfl)))))).symm, rfl, e0⟩, ⟨_, rfl⟩, hW, hsame.mono (by decide) (by decide)⟩
          · refine Gl.go ?_ (fun t k => XS.icmpNo X0.here hx rfl (hb hby d1_156) rfl (flt hc52).1 k)
            show Gl _ _ _ _ (s₁.setTop (mkF m 159 #[.val (.ref a), .val (.int i), .val (.int to), .val (.int ((B i) &&& (255 : Int32))), .val (.int (3 : Int32)), .val (.int (160 : Int32)), .val (.int (191 : Int32)), .unset, .unset] []))
            refine Gl.go ?_ (fun t k => XS.aloadN X0.here hx rfl (hb hby d1_159) rfl rfl k)
            show Gl _ _ _ _ (s₁.setTop (mkF m 160 #[.val (.ref a), .val (.int i), .val (.int to), .val (.int ((B i) &&& (255 : Int32))), .val (.int (3 : Int32)), .val (.int (160 : Int32)), .val (.int (191 : Int32)), .unset, .unset] [(.ref a)]))
            refine Gl.go ?_ (fun t k => XS.iloadN X0.here hx rfl (hb hby d1_160) rfl k)
            show Gl _ _ _ _ (s₁.setTop (mkF m 161 #[.val (.ref a), .val (.int i), .val (.int to), .val (.int ((B i) &&& (255 : Int32))), .val (.int (3 : Int32)), .val (.int (160 : Int32)), .val (.int (191 : Int32)), .unset, .unset] [(.int i), (.ref a)]))
            refine Gl.go ?_ (fun t k => XS.iconst X0.here hx rfl (hb hby d1_161) k)
            show Gl _ _ _ _ (s₁.setTop (mkF m 162 #[.val (.ref a), .val (.int i), .val (.int to), .val (.int ((B i) &&& (255 : Int32))), .val (.int (3 : Int32)), .val (.int (160 : Int32)), .val (.int (191 : Int32)), .unset, .unset] [(.int (1 : Int32)), (.int i), (.ref a)]))
            refine Gl.go ?_ (fun t k => XS.iadd X0.here hx rfl (hb hby d1_162) rfl k)
            show Gl _ _ _ _ (s₁.setTop (mkF m 163 #[.val (.ref a), .val (.int i), .val (.int to), .val (.int ((B i) &&& (255 : Int32))), .val (.int (3 : Int32)), .val (.int (160 : Int32)), .val (.int (191 : Int32)), .unset, .unset] [(.int (i + (1 : Int32))), (.ref a)]))
            refine Gl.go ?_ (BA.rdB hB X0 hx hZ e0 hi1.1 hi1.2 (g := (mkF m 163 #[.val (.ref a), .val (.int i), .val (.int to), .val (.int ((B i) &&& (255 : Int32))), .val (.int (3 : Int32)), .val (.int (160 : Int32)), .val (.int (191 : Int32)), .unset, .unset] [(.int (i + (1 : Int32))), (.ref a)])) rfl rfl (hb hby d1_163))
            show Gl _ _ _ _ (s₁.setTop (mkF m 164 #[.val (.ref a), .val (.int i), .val (.int to), .val (.int ((B i) &&& (255 : Int32))), .val (.int (3 : Int32)), .val (.int (160 : Int32)), .val (.int (191 : Int32)), .unset, .unset] [(.int (B (i + (1 : Int32))))]))
            refine Gl.go ?_ (fun t k => XS.sipush X0.here hx rfl (hb hby d1_164) k)
            show Gl _ _ _ _ (s₁.setTop (mkF m 167 #[.val (.ref a), .val (.int i), .val (.int to), .val (.int ((B i) &&& (255 : Int32))), .val (.int (3 : Int32)), .val (.int (160 : Int32)), .val (.int (191 : Int32)), .unset, .unset] [(.int (255 : Int32)), (.int (B (i + (1 : Int32))))]))
            refine Gl.go ?_ (fun t k => XS.iand X0.here hx rfl (hb hby d1_167) rfl k)
            show Gl _ _ _ _ (s₁.setTop (mkF m 168 #[.val (.ref a), .val (.int i), .val (.int to), .val (.int ((B i) &&& (255 : Int32))), .val (.int (3 : Int32)), .val (.int (160 : Int32)), .val (.int (191 : Int32)), .unset, .unset] [(.int ((B (i + (1 : Int32))) &&& (255 : Int32)))]))
            refine Gl.go ?_ (fun t k => XS.iload X0.here hx rfl (hb hby d1_168) rfl k)
            show Gl _ _ _ _ (s₁.setTop (mkF m 170 #[.val (.ref a), .val (.int i), .val (.int to), .val (.int ((B i) &&& (255 : Int32))), .val (.int (3 : Int32)), .val (.int (160 : Int32)), .val (.int (191 : Int32)), .unset, .unset] [(.int (160 : Int32)), (.int ((B (i + (1 : Int32))) &&& (255 : Int32)))]))
            by_cases hc53 : ((B (i + (1 : Int32))) &&& (255 : Int32)) < (160 : Int32)
            · refine Gl.go ?_ (fun t k => XS.icmpYes X0.here hx rfl (pc0 := 170) (pc' := 191) rfl (hb hby d1_170) rfl (tlt hc53).1 (by decide) (by decide) k)
              show Gl _ _ _ _ (s₁.setTop (mkF m 191 #[.val (.ref a), .val (.int i), .val (.int to), .val (.int ((B i) &&& (255 : Int32))), .val (.int (3 : Int32)), .val (.int (160 : Int32)), .val (.int (191 : Int32)), .unset, .unset] []))
              refine Gl.go ?_ (fun t k => XS.iconst X0.here hx rfl (hb hby d1_191) k)
              show Gl _ _ _ _ (s₁.setTop (mkF m 192 #[.val (.ref a), .val (.int i), .val (.int to), .val (.int ((B i) &&& (255 : Int32))), .val (.int (3 : Int32)), .val (.int (160 : Int32)), .val (.int (191 : Int32)), .unset, .unset] [(.int (0 : Int32))]))
              refine Gl.go ?_ (fun t k => XS.istore X0.here hx rfl (hb hby d1_192) rfl (l' := #[.val (.ref a), .val (.int i), .val (.int to), .val (.int ((B i) &&& (255 : Int32))), .val (.int (3 : Int32)), .val (.int (160 : Int32)), .val (.int (191 : Int32)), .val (.int (0 : Int32)), .unset]) rfl k)
              show Gl _ _ _ _ (s₁.setTop (mkF m 194 #[.val (.ref a), .val (.int i), .val (.int to), .val (.int ((B i) &&& (255 : Int32))), .val (.int (3 : Int32)), .val (.int (160 : Int32)), .val (.int (191 : Int32)), .val (.int (0 : Int32)), .unset] []))
              refine Gl.go ?_ (fun t k => XS.iconst X0.here hx rfl (hb hby d1_194) k)
              show Gl _ _ _ _ (s₁.setTop (mkF m 195 #[.val (.ref a), .val (.int i), .val (.int to), .val (.int ((B i) &&& (255 : Int32))), .val (.int (3 : Int32)), .val (.int (160 : Int32)), .val (.int (191 : Int32)), .val (.int (0 : Int32)), .unset] [(.int (2 : Int32))]))
              refine Gl.go ?_ (fun t k => XS.istore X0.here hx rfl (hb hby d1_195) rfl (l' := #[.val (.ref a), .val (.int i), .val (.int to), .val (.int ((B i) &&& (255 : Int32))), .val (.int (3 : Int32)), .val (.int (160 : Int32)), .val (.int (191 : Int32)), .val (.int (0 : Int32)), .val (.int (2 : Int32))]) rfl k)
              show Gl _ _ _ _ (s₁.setTop (mkF m 197 #[.val (.ref a), .val (.int i), .val (.int to), .val (.int ((B i) &&& (255 : Int32))), .val (.int (3 : Int32)), .val (.int (160 : Int32)), .val (.int (191 : Int32)), .val (.int (0 : Int32)), .val (.int (2 : Int32))] []))
              refine Gl.go ?_ (fun t k => XS.iload X0.here hx rfl (hb hby d1_197) rfl k)
              show Gl _ _ _ _ (s₁.setTop (mkF m 199 #[.val (.ref a), .val (.int i), .val (.int to), .val (.int ((B i) &&& (255 : Int32))), .val (.int (3 : Int32)), .val (.int (160 : Int32)), .val (.int (191 : Int32)), .val (.int (0 : Int32)), .val (.int (2 : Int32))] [(.int (0 : Int32))]))
              refine Gl.go ?_ (fun t k => XS.ifYes X0.here hx rfl (pc0 := 199) (pc' := 238) rfl (hb hby d1_199) rfl ((if0 _ _).trans (teq (by decide : (0 : Int32) = (0 : Int32))).1) (by decide) (by decide) k)
              show Gl _ _ _ _ (s₁.setTop (mkF m 238 #[.val (.ref a), .val (.int i), .val (.int to), .val (.int ((B i) &&& (255 : Int32))), .val (.int (3 : Int32)), .val (.int (160 : Int32)), .val (.int (191 : Int32)), .val (.int (0 : Int32)), .val (.int (2 : Int32))] []))
              refine Gl.go ?_ (fun t k => XS.iload X0.here hx rfl (hb hby d1_238) rfl k)
              show Gl _ _ _ _ (s₁.setTop (mkF m 240 #[.val (.ref a), .val (.int i), .val (.int to), .val (.int ((B i) &&& (255 : Int32))), .val (.int (3 : Int32)), .val (.int (160 : Int32)), .val (.int (191 : Int32)), .val (.int (0 : Int32)), .val (.int (2 : Int32))] [(.int (0 : Int32))]))
              refine Gl.go ?_ (fun t k => XS.ifYes X0.here hx rfl (pc0 := 240) (pc' := 250) rfl (hb hby d1_240) rfl ((if0 _ _).trans (teq (by decide : (0 : Int32) = (0 : Int32))).1) (by decide) (by decide) k)
              show Gl _ _ _ _ (s₁.setTop (mkF m 250 #[.val (.ref a), .val (.int i), .val (.int to), .val (.int ((B i) &&& (255 : Int32))), .val (.int (3 : Int32)), .val (.int (160 : Int32)), .val (.int (191 : Int32)), .val (.int (0 : Int32)), .val (.int (2 : Int32))] []))
              refine Gl.go ?_ (fun t k => XS.iconst X0.here hx rfl (hb hby d1_250) k)
              show Gl _ _ _ _ (s₁.setTop (mkF m 251 #[.val (.ref a), .val (.int i), .val (.int to), .val (.int ((B i) &&& (255 : Int32))), .val (.int (3 : Int32)), .val (.int (160 : Int32)), .val (.int (191 : Int32)), .val (.int (0 : Int32)), .val (.int (2 : Int32))] [(.int (-1 : Int32))]))
              obtain ⟨fs, hr, hrun, hended, hW, hsame⟩ := X0.leave (v := some (.int (-1 : Int32))) (fun h => by rw [Bd.returns] at h; cases h) (BodyLoose.notSynchronized Bd)
              exact Gl.mk ⟨_, _, retI X0 hx Bd.returns (hb hby d1_251) hr, hrun, hended, _, _, rfl, ⟨congrArg (fun z => some (Value.int z)) ((if_neg hc30).trans ((if_pos hc31).trans ((if_neg hc32).trans ((if_pos hc51).trans ((if_neg hc52).trans ((if_pos hc53).trans (rfl))))))).symm, rfl, e0⟩, ⟨_, rfl⟩, hW, hsame.mono (by decide) (by decide)⟩
            · refine Gl.go ?_ (fun t k => XS.icmpNo X0.here hx rfl (hb hby d1_170) rfl (flt hc53).1 k)
              show Gl _ _ _ _ (s₁.setTop (mkF m 173 #[.val (.ref a), .val (.int i), .val (.int to), .val (.int ((B i) &&& (255 : Int32))), .val (.int (3 : Int32)), .val (.int (160 : Int32)), .val (.int (191 : Int32)), .unset, .unset] []))
              refine Gl.go ?_ (fun t k => XS.aloadN X0.here hx rfl (hb hby d1_173) rfl rfl k)
              show Gl _ _ _ _ (s₁.setTop (mkF m 174 #[.val (.ref a), .val (.int i), .val (.int to), .val (.int ((B i) &&& (255 : Int32))), .val (.int (3 : Int32)), .val (.int (160 : Int32)), .val (.int (191 : Int32)), .unset, .unset] [(.ref a)]))
              refine Gl.go ?_ (fun t k => XS.iloadN X0.here hx rfl (hb hby d1_174) rfl k)
              show Gl _ _ _ _ (s₁.setTop (mkF m 175 #[.val (.ref a), .val (.int i), .val (.int to), .val (.int ((B i) &&& (255 : Int32))), .val (.int (3 : Int32)), .val (.int (160 : Int32)), .val (.int (191 : Int32)), .unset, .unset] [(.int i), (.ref a)]))
              refine Gl.go ?_ (fun t k => XS.iconst X0.here hx rfl (hb hby d1_175) k)
              show Gl _ _ _ _ (s₁.setTop (mkF m 176 #[.val (.ref a), .val (.int i), .val (.int to), .val (.int ((B i) &&& (255 : Int32))), .val (.int (3 : Int32)), .val (.int (160 : Int32)), .val (.int (191 : Int32)), .unset, .unset] [(.int (1 : Int32)), (.int i), (.ref a)]))
              refine Gl.go ?_ (fun t k => XS.iadd X0.here hx rfl (hb hby d1_176) rfl k)
              show Gl _ _ _ _ (s₁.setTop (mkF m 177 #[.val (.ref a), .val (.int i), .val (.int to), .val (.int ((B i) &&& (255 : Int32))), .val (.int (3 : Int32)), .val (.int (160 : Int32)), .val (.int (191 : Int32)), .unset, .unset] [(.int (i + (1 : Int32))), (.ref a)]))
              refine Gl.go ?_ (BA.rdB hB X0 hx hZ e0 hi1.1 hi1.2 (g := (mkF m 177 #[.val (.ref a), .val (.int i), .val (.int to), .val (.int ((B i) &&& (255 : Int32))), .val (.int (3 : Int32)), .val (.int (160 : Int32)), .val (.int (191 : Int32)), .unset, .unset] [(.int (i + (1 : Int32))), (.ref a)])) rfl rfl (hb hby d1_177))
              show Gl _ _ _ _ (s₁.setTop (mkF m 178 #[.val (.ref a), .val (.int i), .val (.int to), .val (.int ((B i) &&& (255 : Int32))), .val (.int (3 : Int32)), .val (.int (160 : Int32)), .val (.int (191 : Int32)), .unset, .unset] [(.int (B (i + (1 : Int32))))]))
              refine Gl.go ?_ (fun t k => XS.sipush X0.here hx rfl (hb hby d1_178) k)
              show Gl _ _ _ _ (s₁.setTop (mkF m 181 #[.val (.ref a), .val (.int i), .val (.int to), .val (.int ((B i) &&& (255 : Int32))), .val (.int (3 : Int32)), .val (.int (160 : Int32)), .val (.int (191 : Int32)), .unset, .unset] [(.int (255 : Int32)), (.int (B (i + (1 : Int32))))]))
              refine Gl.go ?_ (fun t k => XS.iand X0.here hx rfl (hb hby d1_181) rfl k)
              show Gl _ _ _ _ (s₁.setTop (mkF m 182 #[.val (.ref a), .val (.int i), .val (.int to), .val (.int ((B i) &&& (255 : Int32))), .val (.int (3 : Int32)), .val (.int (160 : Int32)), .val (.int (191 : Int32)), .unset, .unset] [(.int ((B (i + (1 : Int32))) &&& (255 : Int32)))]))
              refine Gl.go ?_ (fun t k => XS.iload X0.here hx rfl (hb hby d1_182) rfl k)
              show Gl _ _ _ _ (s₁.setTop (mkF m 184 #[.val (.ref a), .val (.int i), .val (.int to), .val (.int ((B i) &&& (255 : Int32))), .val (.int (3 : Int32)), .val (.int (160 : Int32)), .val (.int (191 : Int32)), .unset, .unset] [(.int (191 : Int32)), (.int ((B (i + (1 : Int32))) &&& (255 : Int32)))]))
              by_cases hc54 : (191 : Int32) < ((B (i + (1 : Int32))) &&& (255 : Int32))
              · refine Gl.go ?_ (fun t k => XS.icmpYes X0.here hx rfl (pc0 := 184) (pc' := 191) rfl (hb hby d1_184) rfl (tlt hc54).2.2.1 (by decide) (by decide) k)
                show Gl _ _ _ _ (s₁.setTop (mkF m 191 #[.val (.ref a), .val (.int i), .val (.int to), .val (.int ((B i) &&& (255 : Int32))), .val (.int (3 : Int32)), .val (.int (160 : Int32)), .val (.int (191 : Int32)), .unset, .unset] []))
                refine Gl.go ?_ (fun t k => XS.iconst X0.here hx rfl (hb hby d1_191) k)
                show Gl _ _ _ _ (s₁.setTop (mkF m 192 #[.val (.ref a), .val (.int i), .val (.int to), .val (.int ((B i) &&& (255 : Int32))), .val (.int (3 : Int32)), .val (.int (160 : Int32)), .val (.int (191 : Int32)), .unset, .unset] [(.int (0 : Int32))]))
                refine Gl.go ?_ (fun t k => XS.istore X0.here hx rfl (hb hby d1_192) rfl (l' := #[.val (.ref a), .val (.int i), .val (.int to), .val (.int ((B i) &&& (255 : Int32))), .val (.int (3 : Int32)), .val (.int (160 : Int32)), .val (.int (191 : Int32)), .val (.int (0 : Int32)), .unset]) rfl k)
                show Gl _ _ _ _ (s₁.setTop (mkF m 194 #[.val (.ref a), .val (.int i), .val (.int to), .val (.int ((B i) &&& (255 : Int32))), .val (.int (3 : Int32)), .val (.int (160 : Int32)), .val (.int (191 : Int32)), .val (.int (0 : Int32)), .unset] []))
                refine Gl.go ?_ (fun t k => XS.iconst X0.here hx rfl (hb hby d1_194) k)
                show Gl _ _ _ _ (s₁.setTop (mkF m 195 #[.val (.ref a), .val (.int i), .val (.int to), .val (.int ((B i) &&& (255 : Int32))), .val (.int (3 : Int32)), .val (.int (160 : Int32)), .val (.int (191 : Int32)), .val (.int (0 : Int32)), .unset] [(.int (2 : Int32))]))
                refine Gl.go ?_ (fun t k => XS.istore X0.here hx rfl (hb hby d1_195) rfl (l' := #[.val (.ref a), .val (.int i), .val (.int to), .val (.int ((B i) &&& (255 : Int32))), .val (.int (3 : Int32)), .val (.int (160 : Int32)), .val (.int (191 : Int32)), .val (.int (0 : Int32)), .val (.int (2 : Int32))]) rfl k)
                show Gl _ _ _ _ (s₁.setTop (mkF m 197 #[.val (.ref a), .val (.int i), .val (.int to), .val (.int ((B i) &&& (255 : Int32))), .val (.int (3 : Int32)), .val (.int (160 : Int32)), .val (.int (191 : Int32)), .val (.int (0 : Int32)), .val (.int (2 : Int32))] []))
                refine Gl.go ?_ (fun t k => XS.iload X0.here hx rfl (hb hby d1_197) rfl k)
                show Gl _ _ _ _ (s₁.setTop (mkF m 199 #[.val (.ref a), .val (.int i), .val (.int to), .val (.int ((B i) &&& (255 : Int32))), .val (.int (3 : Int32)), .val (.int (160 : Int32)), .val (.int (191 : Int32)), .val (.int (0 : Int32)), .val (.int (2 : Int32))] [(.int (0 : Int32))]))
                refine Gl.go ?_ (fun t k => XS.ifYes X0.here hx rfl (pc0 := 199) (pc' := 238) rfl (hb hby d1_199) rfl ((if0 _ _).trans (teq (by decide : (0 : Int32) = (0 : Int32))).1) (by decide) (by decide) k)
                show Gl _ _ _ _ (s₁.setTop (mkF m 238 #[.val (.ref a), .val (.int i), .val (.int to), .val (.int ((B i) &&& (255 : Int32))), .val (.int (3 : Int32)), .val (.int (160 : Int32)), .val (.int (191 : Int32)), .val (.int (0 : Int32)), .val (.int (2 : Int32))] []))
                refine Gl.go ?_ (fun t k => XS.iload X0.here hx rfl (hb hby d1_238) rfl k)
                show Gl _ _ _ _ (s₁.setTop (mkF m 240 #[.val (.ref a), .val (.int i), .val (.int to), .val (.int ((B i) &&& (255 : Int32))), .val (.int (3 : Int32)), .val (.int (160 : Int32)), .val (.int (191 : Int32)), .val (.int (0 : Int32)), .val (.int (2 : Int32))] [(.int (0 : Int32))]))
                refine Gl.go ?_ (fun t k => XS.ifYes X0.here hx rfl (pc0 := 240) (pc' := 250) rfl (hb hby d1_240) rfl ((if0 _ _).trans (teq (by decide : (0 : Int32) = (0 : Int32))).1) (by decide) (by decide) k)
                show Gl _ _ _ _ (s₁.setTop (mkF m 250 #[.val (.ref a), .val (.int i), .val (.int to), .val (.int ((B i) &&& (255 : Int32))), .val (.int (3 : Int32)), .val (.int (160 : Int32)), .val (.int (191 : Int32)), .val (.int (0 : Int32)), .val (.int (2 : Int32))] []))
                refine Gl.go ?_ (fun t k => XS.iconst X0.here hx rfl (hb hby d1_250) k)
                show Gl _ _ _ _ (s₁.setTop (mkF m 251 #[.val (.ref a), .val (.int i), .val (.int to), .val (.int ((B i) &&& (255 : Int32))), .val (.int (3 : Int32)), .val (.int (160 : Int32)), .val (.int (191 : Int32)), .val (.int (0 : Int32)), .val (.int (2 : Int32))] [(.int (-1 : Int32))]))
                obtain ⟨fs, hr, hrun, hended, hW, hsame⟩ := X0.leave (v := some (.int (-1 : Int32))) (fun h => by rw [Bd.returns] at h; cases h) (BodyLoose.notSynchronized Bd)
                exact Gl.mk ⟨_, _, retI X0 hx Bd.returns (hb hby d1_251) hr, hrun, hended, _, _, rfl, ⟨congrArg (fun z => some (Value.int z)) ((if_neg hc30).trans ((if_pos hc31).trans ((if_neg hc32).trans ((if_pos hc51).trans ((if_neg hc52).trans ((if_neg hc53).trans ((if_pos hc54).trans (rfl)))))))).symm, rfl, e0⟩, ⟨_, rfl⟩, hW, hsame.mono (by decide) (by decide)⟩
              · refine Gl.go ?_ (fun t k => XS.icmpNo X0.here hx rfl (hb hby d1_184) rfl (flt hc54).2.2.1 k)
                show Gl _ _ _ _ (s₁.setTop (mkF m 187 #[.val (.ref a), .val (.int i), .val (.int to), .val (.int ((B i) &&& (255 : Int32))), .val (.int (3 : Int32)), .val (.int (160 : Int32)), .val (.int (191 : Int32)), .unset, .unset] []))
                refine Gl.go ?_ (fun t k => XS.iconst X0.here hx rfl (hb hby d1_187) k)
                show Gl _ _ _ _ (s₁.setTop (mkF m 188 #[.val (.ref a), .val (.int i), .val (.int to), .val (.int ((B i) &&& (255 : Int32))), .val (.int (3 : Int32)), .val (.int (160 : Int32)), .val (.int (191 : Int32)), .unset, .unset] [(.int (1 : Int32))]))
                refine Gl.go ?_ (fun t k => XS.goto X0.here hx rfl (pc0 := 188) (pc' := 192) rfl (hb hby d1_188) (by decide) (by decide) k)
                show Gl _ _ _ _ (s₁.setTop (mkF m 192 #[.val (.ref a), .val (.int i), .val (.int to), .val (.int ((B i) &&& (255 : Int32))), .val (.int (3 : Int32)), .val (.int (160 : Int32)), .val (.int (191 : Int32)), .unset, .unset] [(.int (1 : Int32))]))
                refine Gl.go ?_ (fun t k => XS.istore X0.here hx rfl (hb hby d1_192) rfl (l' := #[.val (.ref a), .val (.int i), .val (.int to), .val (.int ((B i) &&& (255 : Int32))), .val (.int (3 : Int32)), .val (.int (160 : Int32)), .val (.int (191 : Int32)), .val (.int (1 : Int32)), .unset]) rfl k)
                show Gl _ _ _ _ (s₁.setTop (mkF m 194 #[.val (.ref a), .val (.int i), .val (.int to), .val (.int ((B i) &&& (255 : Int32))), .val (.int (3 : Int32)), .val (.int (160 : Int32)), .val (.int (191 : Int32)), .val (.int (1 : Int32)), .unset] []))
                refine Gl.go ?_ (fun t k => XS.iconst X0.here hx rfl (hb hby d1_194) k)
                show Gl _ _ _ _ (s₁.setTop (mkF m 195 #[.val (.ref a), .val (.int i), .val (.int to), .val (.int ((B i) &&& (255 : Int32))), .val (.int (3 : Int32)), .val (.int (160 : Int32)), .val (.int (191 : Int32)), .val (.int (1 : Int32)), .unset] [(.int (2 : Int32))]))
                refine Gl.go ?_ (fun t k => XS.istore X0.here hx rfl (hb hby d1_195) rfl (l' := #[.val (.ref a), .val (.int i), .val (.int to), .val (.int ((B i) &&& (255 : Int32))), .val (.int (3 : Int32)), .val (.int (160 : Int32)), .val (.int (191 : Int32)), .val (.int (1 : Int32)), .val (.int (2 : Int32))]) rfl k)
                show Gl _ _ _ _ (s₁.setTop (mkF m 197 #[.val (.ref a), .val (.int i), .val (.int to), .val (.int ((B i) &&& (255 : Int32))), .val (.int (3 : Int32)), .val (.int (160 : Int32)), .val (.int (191 : Int32)), .val (.int (1 : Int32)), .val (.int (2 : Int32))] []))
                refine Gl.go ?_ (fun t k => XS.iload X0.here hx rfl (hb hby d1_197) rfl k)
                show Gl _ _ _ _ (s₁.setTop (mkF m 199 #[.val (.ref a), .val (.int i), .val (.int to), .val (.int ((B i) &&& (255 : Int32))), .val (.int (3 : Int32)), .val (.int (160 : Int32)), .val (.int (191 : Int32)), .val (.int (1 : Int32)), .val (.int (2 : Int32))] [(.int (1 : Int32))]))
                refine Gl.go ?_ (fun t k => XS.ifNo X0.here hx rfl (hb hby d1_199) rfl ((if0 _ _).trans (feq (by decide : ¬ ((1 : Int32) = (0 : Int32)))).1) k)
                show Gl _ _ _ _ (s₁.setTop (mkF m 202 #[.val (.ref a), .val (.int i), .val (.int to), .val (.int ((B i) &&& (255 : Int32))), .val (.int (3 : Int32)), .val (.int (160 : Int32)), .val (.int (191 : Int32)), .val (.int (1 : Int32)), .val (.int (2 : Int32))] []))
                refine Gl.go ?_ (fun t k => XS.iload X0.here hx rfl (hb hby d1_202) rfl k)
                show Gl _ _ _ _ (s₁.setTop (mkF m 204 #[.val (.ref a), .val (.int i), .val (.int to), .val (.int ((B i) &&& (255 : Int32))), .val (.int (3 : Int32)), .val (.int (160 : Int32)), .val (.int (191 : Int32)), .val (.int (1 : Int32)), .val (.int (2 : Int32))] [(.int (2 : Int32))]))
                refine Gl.go ?_ (fun t k => XS.iload X0.here hx rfl (hb hby d1_204) rfl k)
                show Gl _ _ _ _ (s₁.setTop (mkF m 206 #[.val (.ref a), .val (.int i), .val (.int to), .val (.int ((B i) &&& (255 : Int32))), .val (.int (3 : Int32)), .val (.int (160 : Int32)), .val (.int (191 : Int32)), .val (.int (1 : Int32)), .val (.int (2 : Int32))] [(.int (3 : Int32)), (.int (2 : Int32))]))
                refine Gl.go ?_ (fun t k => XS.icmpNo X0.here hx rfl (hb hby d1_206) rfl (tlt (by decide : (2 : Int32) < (3 : Int32))).2.1 k)
                show Gl _ _ _ _ (s₁.setTop (mkF m 209 #[.val (.ref a), .val (.int i), .val (.int to), .val (.int ((B i) &&& (255 : Int32))), .val (.int (3 : Int32)), .val (.int (160 : Int32)), .val (.int (191 : Int32)), .val (.int (1 : Int32)), .val (.int (2 : Int32))] []))
                refine Gl.go ?_ (fun t k => XS.aloadN X0.here hx rfl (hb hby d1_209) rfl rfl k)
                show Gl _ _ _ _ (s₁.setTop (mkF m 210 #[.val (.ref a), .val (.int i), .val (.int to), .val (.int ((B i) &&& (255 : Int32))), .val (.int (3 : Int32)), .val (.int (160 : Int32)), .val (.int (191 : Int32)), .val (.int (1 : Int32)), .val (.int (2 : Int32))] [(.ref a)]))
                refine Gl.go ?_ (fun t k => XS.iloadN X0.here hx rfl (hb hby d1_210) rfl k)
                show Gl _ _ _ _ (s₁.setTop (mkF m 211 #[.val (.ref a), .val (.int i), .val (.int to), .val (.int ((B i) &&& (255 : Int32))), .val (.int (3 : Int32)), .val (.int (160 : Int32)), .val (.int (191 : Int32)), .val (.int (1 : Int32)), .val (.int (2 : Int32))] [(.int i), (.ref a)]))
                refine Gl.go ?_ (fun t k => XS.iload X0.here hx rfl (hb hby d1_211) rfl k)
                show Gl _ _ _ _ (s₁.setTop (mkF m 213 #[.val (.ref a), .val (.int i), .val (.int to), .val (.int ((B i) &&& (255 : Int32))), .val (.int (3 : Int32)), .val (.int (160 : Int32)), .val (.int (191 : Int32)), .val (.int (1 : Int32)), .val (.int (2 : Int32))] [(.int (2 : Int32)), (.int i), (.ref a)]))
                refine Gl.go ?_ (fun t k => XS.iadd X0.here hx rfl (hb hby d1_213) rfl k)
                show Gl _ _ _ _ (s₁.setTop (mkF m 214 #[.val (.ref a), .val (.int i), .val (.int to), .val (.int ((B i) &&& (255 : Int32))), .val (.int (3 : Int32)), .val (.int (160 : Int32)), .val (.int (191 : Int32)), .val (.int (1 : Int32)), .val (.int (2 : Int32))] [(.int (i + (2 : Int32))), (.ref a)]))
                refine Gl.go ?_ (BA.rdB hB X0 hx hZ e0 hi2.1 hi2.2 (g := (mkF m 214 #[.val (.ref a), .val (.int i), .val (.int to), .val (.int ((B i) &&& (255 : Int32))), .val (.int (3 : Int32)), .val (.int (160 : Int32)), .val (.int (191 : Int32)), .val (.int (1 : Int32)), .val (.int (2 : Int32))] [(.int (i + (2 : Int32))), (.ref a)])) rfl rfl (hb hby d1_214))
                show Gl _ _ _ _ (s₁.setTop (mkF m 215 #[.val (.ref a), .val (.int i), .val (.int to), .val (.int ((B i) &&& (255 : Int32))), .val (.int (3 : Int32)), .val (.int (160 : Int32)), .val (.int (191 : Int32)), .val (.int (1 : Int32)), .val (.int (2 : Int32))] [(.int (B (i + (2 : Int32))))]))
                refine Gl.go ?_ (fun t k => XS.sipush X0.here hx rfl (hb hby d1_215) k)
                show Gl _ _ _ _ (s₁.setTop (mkF m 218 #[.val (.ref a), .val (.int i), .val (.int to), .val (.int ((B i) &&& (255 : Int32))), .val (.int (3 : Int32)), .val (.int (160 : Int32)), .val (.int (191 : Int32)), .val (.int (1 : Int32)), .val (.int (2 : Int32))] [(.int (192 : Int32)), (.int (B (i + (2 : Int32))))]))
                refine Gl.go ?_ (fun t k => XS.iand X0.here hx rfl (hb hby d1_218) rfl k)
                show Gl _ _ _ _ (s₁.setTop (mkF m 219 #[.val (.ref a), .val (.int i), .val (.int to), .val (.int ((B i) &&& (255 : Int32))), .val (.int (3 : Int32)), .val (.int (160 : Int32)), .val (.int (191 : Int32)), .val (.int (1 : Int32)), .val (.int (2 : Int32))] [(.int ((B (i + (2 : Int32))) &&& (192 : Int32)))]))
                refine Gl.go ?_ (fun t k => XS.sipush X0.here hx rfl (hb hby d1_219) k)
                show Gl _ _ _ _ (s₁.setTop (mkF m 222 #[.val (.ref a), .val (.int i), .val (.int to), .val (.int ((B i) &&& (255 : Int32))), .val (.int (3 : Int32)), .val (.int (160 : Int32)), .val (.int (191 : Int32)), .val (.int (1 : Int32)), .val (.int (2 : Int32))] [(.int (128 : Int32)), (.int ((B (i + (2 : Int32))) &&& (192 : Int32)))]))
                by_cases hc55 : ((B (i + (2 : Int32))) &&& (192 : Int32)) = (128 : Int32)
                · refine Gl.go ?_ (fun t k => XS.icmpNo X0.here hx rfl (hb hby d1_222) rfl (teq hc55).2 k)
                  show Gl _ _ _ _ (s₁.setTop (mkF m 225 #[.val (.ref a), .val (.int i), .val (.int to), .val (.int ((B i) &&& (255 : Int32))), .val (.int (3 : Int32)), .val (.int (160 : Int32)), .val (.int (191 : Int32)), .val (.int (1 : Int32)), .val (.int (2 : Int32))] []))
                  refine Gl.go ?_ (fun t k => XS.iconst X0.here hx rfl (hb hby d1_225) k)
                  show Gl _ _ _ _ (s₁.setTop (mkF m 226 #[.val (.ref a), .val (.int i), .val (.int to), .val (.int ((B i) &&& (255 : Int32))), .val (.int (3 : Int32)), .val (.int (160 : Int32)), .val (.int (191 : Int32)), .val (.int (1 : Int32)), .val (.int (2 : Int32))] [(.int (1 : Int32))]))
                  refine Gl.go ?_ (fun t k => XS.goto X0.here hx rfl (pc0 := 226) (pc' := 230) rfl (hb hby d1_226) (by decide) (by decide) k)
                  show Gl _ _ _ _ (s₁.setTop (mkF m 230 #[.val (.ref a), .val (.int i), .val (.int to), .val (.int ((B i) &&& (255 : Int32))), .val (.int (3 : Int32)), .val (.int (160 : Int32)), .val (.int (191 : Int32)), .val (.int (1 : Int32)), .val (.int (2 : Int32))] [(.int (1 : Int32))]))
                  refine Gl.go ?_ (fun t k => XS.istore X0.here hx rfl (hb hby d1_230) rfl (l' := #[.val (.ref a), .val (.int i), .val (.int to), .val (.int ((B i) &&& (255 : Int32))), .val (.int (3 : Int32)), .val (.int (160 : Int32)), .val (.int (191 : Int32)), .val (.int (1 : Int32)), .val (.int (2 : Int32))]) rfl k)
                  show Gl _ _ _ _ (s₁.setTop (mkF m 232 #[.val (.ref a), .val (.int i), .val (.int to), .val (.int ((B i) &&& (255 : Int32))), .val (.int (3 : Int32)), .val (.int (160 : Int32)), .val (.int (191 : Int32)), .val (.int (1 : Int32)), .val (.int (2 : Int32))] []))
                  refine Gl.go ?_ (fun t k => XS.iinc X0.here hx rfl (hb hby d1_232) rfl (l' := #[.val (.ref a), .val (.int i), .val (.int to), .val (.int ((B i) &&& (255 : Int32))), .val (.int (3 : Int32)), .val (.int (160 : Int32)), .val (.int (191 : Int32)), .val (.int (1 : Int32)), .val (.int (3 : Int32))]) rfl k)
                  show Gl _ _ _ _ (s₁.setTop (mkF m 235 #[.val (.ref a), .val (.int i), .val (.int to), .val (.int ((B i) &&& (255 : Int32))), .val (.int (3 : Int32)), .val (.int (160 : Int32)), .val (.int (191 : Int32)), .val (.int (1 : Int32)), .val (.int (3 : Int32))] []))
                  refine Gl.go ?_ (fun t k => XS.goto X0.here hx rfl (pc0 := 235) (pc' := 197) rfl (hb hby d1_235) (by decide) (by decide) k)
                  show Gl _ _ _ _ (s₁.setTop (mkF m 197 #[.val (.ref a), .val (.int i), .val (.int to), .val (.int ((B i) &&& (255 : Int32))), .val (.int (3 : Int32)), .val (.int (160 : Int32)), .val (.int (191 : Int32)), .val (.int (1 : Int32)), .val (.int (3 : Int32))] []))
                  refine Gl.go ?_ (fun t k => XS.iload X0.here hx rfl (hb hby d1_197) rfl k)
                  show Gl _ _ _ _ (s₁.setTop (mkF m 199 #[.val (.ref a), .val (.int i), .val (.int to), .val (.int ((B i) &&& (255 : Int32))), .val (.int (3 : Int32)), .val (.int (160 : Int32)), .val (.int (191 : Int32)), .val (.int (1 : Int32)), .val (.int (3 : Int32))] [(.int (1 : Int32))]))
                  refine Gl.go ?_ (fun t k => XS.ifNo X0.here hx rfl (hb hby d1_199) rfl ((if0 _ _).trans (feq (by decide : ¬ ((1 : Int32) = (0 : Int32)))).1) k)
                  show Gl _ _ _ _ (s₁.setTop (mkF m 202 #[.val (.ref a), .val (.int i), .val (.int to), .val (.int ((B i) &&& (255 : Int32))), .val (.int (3 : Int32)), .val (.int (160 : Int32)), .val (.int (191 : Int32)), .val (.int (1 : Int32)), .val (.int (3 : Int32))] []))
                  refine Gl.go ?_ (fun t k => XS.iload X0.here hx rfl (hb hby d1_202) rfl k)
                  show Gl _ _ _ _ (s₁.setTop (mkF m 204 #[.val (.ref a), .val (.int i), .val (.int to), .val (.int ((B i) &&& (255 : Int32))), .val (.int (3 : Int32)), .val (.int (160 : Int32)), .val (.int (191 : Int32)), .val (.int (1 : Int32)), .val (.int (3 : Int32))] [(.int (3 : Int32))]))
                  refine Gl.go ?_ (fun t k => XS.iload X0.here hx rfl (hb hby d1_204) rfl k)
                  show Gl _ _ _ _ (s₁.setTop (mkF m 206 #[.val (.ref a), .val (.int i), .val (.int to), .val (.int ((B i) &&& (255 : Int32))), .val (.int (3 : Int32)), .val (.int (160 : Int32)), .val (.int (191 : Int32)), .val (.int (1 : Int32)), .val (.int (3 : Int32))] [(.int (3 : Int32)), (.int (3 : Int32))]))
                  refine Gl.go ?_ (fun t k => XS.icmpYes X0.here hx rfl (pc0 := 206) (pc' := 238) rfl (hb hby d1_206) rfl (flt (by decide : ¬ ((3 : Int32) < (3 : Int32)))).2.1 (by decide) (by decide) k)
                  show Gl _ _ _ _ (s₁.setTop (mkF m 238 #[.val (.ref a), .val (.int i), .val (.int to), .val (.int ((B i) &&& (255 : Int32))), .val (.int (3 : Int32)), .val (.int (160 : Int32)), .val (.int (191 : Int32)), .val (.int (1 : Int32)), .val (.int (3 : Int32))] []))
                  refine Gl.go ?_ (fun t k => XS.iload X0.here hx rfl (hb hby d1_238) rfl k)
                  show Gl _ _ _ _ (s₁.setTop (mkF m 240 #[.val (.ref a), .val (.int i), .val (.int to), .val (.int ((B i) &&& (255 : Int32))), .val (.int (3 : Int32)), .val (.int (160 : Int32)), .val (.int (191 : Int32)), .val (.int (1 : Int32)), .val (.int (3 : Int32))] [(.int (1 : Int32))]))
                  refine Gl.go ?_ (fun t k => XS.ifNo X0.here hx rfl (hb hby d1_240) rfl ((if0 _ _).trans (feq (by decide : ¬ ((1 : Int32) = (0 : Int32)))).1) k)
                  show Gl _ _ _ _ (s₁.setTop (mkF m 243 #[.val (.ref a), .val (.int i), .val (.int to), .val (.int ((B i) &&& (255 : Int32))), .val (.int (3 : Int32)), .val (.int (160 : Int32)), .val (.int (191 : Int32)), .val (.int (1 : Int32)), .val (.int (3 : Int32))] []))
                  refine Gl.go ?_ (fun t k => XS.iloadN X0.here hx rfl (hb hby d1_243) rfl k)
                  show Gl _ _ _ _ (s₁.setTop (mkF m 244 #[.val (.ref a), .val (.int i), .val (.int to), .val (.int ((B i) &&& (255 : Int32))), .val (.int (3 : Int32)), .val (.int (160 : Int32)), .val (.int (191 : Int32)), .val (.int (1 : Int32)), .val (.int (3 : Int32))] [(.int i)]))
                  refine Gl.go ?_ (fun t k => XS.iload X0.here hx rfl (hb hby d1_244) rfl k)
                  show Gl _ _ _ _ (s₁.setTop (mkF m 246 #[.val (.ref a), .val (.int i), .val (.int to), .val (.int ((B i) &&& (255 : Int32))), .val (.int (3 : Int32)), .val (.int (160 : Int32)), .val (.int (191 : Int32)), .val (.int (1 : Int32)), .val (.int (3 : Int32))] [(.int (3 : Int32)), (.int i)]))
                  refine Gl.go ?_ (fun t k => XS.iadd X0.here hx rfl (hb hby d1_246) rfl k)
                  show Gl _ _ _ _ (s₁.setTop (mkF m 247 #[.val (.ref a), .val (.int i), .val (.int to), .val (.int ((B i) &&& (255 : Int32))), .val (.int (3 : Int32)), .val (.int (160 : Int32)), .val (.int (191 : Int32)), .val (.int (1 : Int32)), .val (.int (3 : Int32))] [(.int (i + (3 : Int32)))]))
                  refine Gl.go ?_ (fun t k => XS.goto X0.here hx rfl (pc0 := 247) (pc' := 251) rfl (hb hby d1_247) (by decide) (by decide) k)
                  show Gl _ _ _ _ (s₁.setTop (mkF m 251 #[.val (.ref a), .val (.int i), .val (.int to), .val (.int ((B i) &&& (255 : Int32))), .val (.int (3 : Int32)), .val (.int (160 : Int32)), .val (.int (191 : Int32)), .val (.int (1 : Int32)), .val (.int (3 : Int32))] [(.int (i + (3 : Int32)))]))
                  obtain ⟨fs, hr, hrun, hended, hW, hsame⟩ := X0.leave (v := some (.int (i + (3 : Int32)))) (fun h => by rw [Bd.returns] at h; cases h) (BodyLoose.notSynchronized Bd)
                  exact Gl.mk ⟨_, _, retI X0 hx Bd.returns (hb hby d1_251) hr, hrun, hended, _, _, rfl, ⟨congrArg (fun z => some (Value.int z)) ((if_neg hc30).trans ((if_pos hc31).trans ((if_neg hc32).trans ((if_pos hc51).trans ((if_neg hc52).trans ((if_neg hc53).trans ((if_neg hc54).trans ((if_pos hc55).trans (rfl))))))))).symm, rfl, e0⟩, ⟨_, rfl⟩, hW, hsame.mono (by decide) (by decide)⟩
                · refine Gl.go ?_ (fun t k => XS.icmpYes X0.here hx rfl (pc0 := 222) (pc' := 229) rfl (hb hby d1_222) rfl (feq hc55).2 (by decide) (by decide) k)
                  show Gl _ _ _ _ (s₁.setTop (mkF m 229 #[.val (.ref a), .val (.int i), .val (.int to), .val (.int ((B i) &&& (255 : Int32))), .val (.int (3 : Int32)), .val (.int (160 : Int32)), .val (.int (191 : Int32)), .val (.int (1 : Int32)), .val (.int (2 : Int32))] []))
                  refine Gl.go ?_ (fun t k => XS.iconst X0.here hx rfl (hb hby d1_229) k)
                  show Gl _ _ _ _ (s₁.setTop (mkF m 230 #[.val (.ref a), .val (.int i), .val (.int to), .val (.int ((B i) &&& (255 : Int32))), .val (.int (3 : Int32)), .val (.int (160 : Int32)), .val (.int (191 : Int32)), .val (.int (1 : Int32)), .val (.int (2 : Int32))] [(.int (0 : Int32))]))
                  refine Gl.go ?_ (fun t k => XS.istore X0.here hx rfl (hb hby d1_230) rfl (l' := #[.val (.ref a), .val (.int i), .val (.int to), .val (.int ((B i) &&& (255 : Int32))), .val (.int (3 : Int32)), .val (.int (160 : Int32)), .val (.int (191 : Int32)), .val (.int (0 : Int32)), .val (.int (2 : Int32))]) rfl k)
                  show Gl _ _ _ _ (s₁.setTop (mkF m 232 #[.val (.ref a), .val (.int i), .val (.int to), .val (.int ((B i) &&& (255 : Int32))), .val (.int (3 : Int32)), .val (.int (160 : Int32)), .val (.int (191 : Int32)), .val (.int (0 : Int32)), .val (.int (2 : Int32))] []))
                  refine Gl.go ?_ (fun t k => XS.iinc X0.here hx rfl (hb hby d1_232) rfl (l' := #[.val (.ref a), .val (.int i), .val (.int to), .val (.int ((B i) &&& (255 : Int32))), .val (.int (3 : Int32)), .val (.int (160 : Int32)), .val (.int (191 : Int32)), .val (.int (0 : Int32)), .val (.int (3 : Int32))]) rfl k)
                  show Gl _ _ _ _ (s₁.setTop (mkF m 235 #[.val (.ref a), .val (.int i), .val (.int to), .val (.int ((B i) &&& (255 : Int32))), .val (.int (3 : Int32)), .val (.int (160 : Int32)), .val (.int (191 : Int32)), .val (.int (0 : Int32)), .val (.int (3 : Int32))] []))
                  refine Gl.go ?_ (fun t k => XS.goto X0.here hx rfl (pc0 := 235) (pc' := 197) rfl (hb hby d1_235) (by decide) (by decide) k)
                  show Gl _ _ _ _ (s₁.setTop (mkF m 197 #[.val (.ref a), .val (.int i), .val (.int to), .val (.int ((B i) &&& (255 : Int32))), .val (.int (3 : Int32)), .val (.int (160 : Int32)), .val (.int (191 : Int32)), .val (.int (0 : Int32)), .val (.int (3 : Int32))] []))
                  refine Gl.go ?_ (fun t k => XS.iload X0.here hx rfl (hb hby d1_197) rfl k)
                  show Gl _ _ _ _ (s₁.setTop (mkF m 199 #[.val (.ref a), .val (.int i), .val (.int to), .val (.int ((B i) &&& (255 : Int32))), .val (.int (3 : Int32)), .val (.int (160 : Int32)), .val (.int (191 : Int32)), .val (.int (0 : Int32)), .val (.int (3 : Int32))] [(.int (0 : Int32))]))
                  refine Gl.go ?_ (fun t k => XS.ifYes X0.here hx rfl (pc0 := 199) (pc' := 238) rfl (hb hby d1_199) rfl ((if0 _ _).trans (teq (by decide : (0 : Int32) = (0 : Int32))).1) (by decide) (by decide) k)
                  show Gl _ _ _ _ (s₁.setTop (mkF m 238 #[.val (.ref a), .val (.int i), .val (.int to), .val (.int ((B i) &&& (255 : Int32))), .val (.int (3 : Int32)), .val (.int (160 : Int32)), .val (.int (191 : Int32)), .val (.int (0 : Int32)), .val (.int (3 : Int32))] []))
                  refine Gl.go ?_ (fun t k => XS.iload X0.here hx rfl (hb hby d1_238) rfl k)
                  show Gl _ _ _ _ (s₁.setTop (mkF m 240 #[.val (.ref a), .val (.int i), .val (.int to), .val (.int ((B i) &&& (255 : Int32))), .val (.int (3 : Int32)), .val (.int (160 : Int32)), .val (.int (191 : Int32)), .val (.int (0 : Int32)), .val (.int (3 : Int32))] [(.int (0 : Int32))]))
                  refine Gl.go ?_ (fun t k => XS.ifYes X0.here hx rfl (pc0 := 240) (pc' := 250) rfl (hb hby d1_240) rfl ((if0 _ _).trans (teq (by decide : (0 : Int32) = (0 : Int32))).1) (by decide) (by decide) k)
                  show Gl _ _ _ _ (s₁.setTop (mkF m 250 #[.val (.ref a), .val (.int i), .val (.int to), .val (.int ((B i) &&& (255 : Int32))), .val (.int (3 : Int32)), .val (.int (160 : Int32)), .val (.int (191 : Int32)), .val (.int (0 : Int32)), .val (.int (3 : Int32))] []))
                  refine Gl.go ?_ (fun t k => XS.iconst X0.here hx rfl (hb hby d1_250) k)
                  show Gl _ _ _ _ (s₁.setTop (mkF m 251 #[.val (.ref a), .val (.int i), .val (.int to), .val (.int ((B i) &&& (255 : Int32))), .val (.int (3 : Int32)), .val (.int (160 : Int32)), .val (.int (191 : Int32)), .val (.int (0 : Int32)), .val (.int (3 : Int32))] [(.int (-1 : Int32))]))
                  obtain ⟨fs, hr, hrun, hended, hW, hsame⟩ := X0.leave (v := some (.int (-1 : Int32))) (fun h => by rw [Bd.returns] at h; cases h) (BodyLoose.notSynchronized Bd)
                  exact Gl.mk ⟨_, _, retI X0 hx Bd.returns (hb hby d1_251) hr, hrun, hended, _, _, rfl, ⟨congrArg (fun z => some (Value.int z)) ((if_neg hc30).trans ((if_pos hc31).trans ((if_neg hc32).trans ((if_pos hc51).trans ((if_neg hc52).trans ((if_neg hc53).trans ((if_neg hc54).trans ((if_neg hc55).trans (rfl))))))))).symm, rfl, e0⟩, ⟨_, rfl⟩, hW, hsame.mono (by decide) (by decide)⟩
        · refine Gl.go ?_ (fun t k => XS.icmpYes X0.here hx rfl (pc0 := 62) (pc' := 71) rfl (hb hby d1_62) rfl (feq hc51).2 (by decide) (by decide) k)
          show Gl _ _ _ _ (s₁.setTop (mkF m 71 #[.val (.ref a), .val (.int i), .val (.int to), .val (.int ((B i) &&& (255 : Int32))), .val (.int (3 : Int32)), .val (.int (128 : Int32)), .val (.int (191 : Int32)), .unset, .unset] []))
          refine Gl.go ?_ (fun t k => XS.iload X0.here hx rfl (hb hby d1_71) rfl k)
          show Gl _ _ _ _ (s₁.setTop (mkF m 73 #[.val (.ref a), .val (.int i), .val (.int to), .val (.int ((B i) &&& (255 : Int32))), .val (.int (3 : Int32)), .val (.int (128 : Int32)), .val (.int (191 : Int32)), .unset, .unset] [(.int (128 : Int32))]))
          refine Gl.go ?_ (fun t k => XS.istore X0.here hx rfl (hb hby d1_73) rfl (l' := #[.val (.ref a), .val (.int i), .val (.int to), .val (.int ((B i) &&& (255 : Int32))), .val (.int (3 : Int32)), .val (.int (128 : Int32)), .val (.int (191 : Int32)), .unset, .unset]) rfl k)
          show Gl _ _ _ _ (s₁.setTop (mkF m 75 #[.val (.ref a), .val (.int i), .val (.int to), .val (.int ((B i) &&& (255 : Int32))), .val (.int (3 : Int32)), .val (.int (128 : Int32)), .val (.int (191 : Int32)), .unset, .unset] []))
          refine Gl.go ?_ (fun t k => XS.iloadN X0.here hx rfl (hb hby d1_75) rfl k)
          show Gl _ _ _ _ (s₁.setTop (mkF m 76 #[.val (.ref a), .val (.int i), .val (.int to), .val (.int ((B i) &&& (255 : Int32))), .val (.int (3 : Int32)), .val (.int (128 : Int32)), .val (.int (191 : Int32)), .unset, .unset] [(.int ((B i) &&& (255 : Int32)))]))
          refine Gl.go ?_ (fun t k => XS.sipush X0.here hx rfl (hb hby d1_76) k)
          show Gl _ _ _ _ (s₁.setTop (mkF m 79 #[.val (.ref a), .val (.int i), .val (.int to), .val (.int ((B i) &&& (255 : Int32))), .val (.int (3 : Int32)), .val (.int (128 : Int32)), .val (.int (191 : Int32)), .unset, .unset] [(.int (237 : Int32)), (.int ((B i) &&& (255 : Int32)))]))
          by_cases hc56 : ((B i) &&& (255 : Int32)) = (237 : Int32)
          · refine Gl.go ?_ (fun t k => XS.icmpNo X0.here hx rfl (hb hby d1_79) rfl (teq hc56).2 k)
            show Gl _ _ _ _ (s₁.setTop (mkF m 82 #[.val (.ref a), .val (.int i), .val (.int to), .val (.int ((B i) &&& (255 : Int32))), .val (.int (3 : Int32)), .val (.int (128 : Int32)), .val (.int (191 : Int32)), .unset, .unset] []))
            refine Gl.go ?_ (fun t k => XS.sipush X0.here hx rfl (hb hby d1_82) k)
            show Gl _ _ _ _ (s₁.setTop (mkF m 85 #[.val (.ref a), .val (.int i), .val (.int to), .val (.int ((B i) &&& (255 : Int32))), .val (.int (3 : Int32)), .val (.int (128 : Int32)), .val (.int (191 : Int32)), .unset, .unset] [(.int (159 : Int32))]))
            refine Gl.go ?_ (fun t k => XS.goto X0.here hx rfl (pc0 := 85) (pc' := 90) rfl (hb hby d1_85) (by decide) (by decide) k)
            show Gl _ _ _ _ (s₁.setTop (mkF m 90 #[.val (.ref a), .val (.int i), .val (.int to), .val (.int ((B i) &&& (255 : Int32))), .val (.int (3 : Int32)), .val (.int (128 : Int32)), .val (.int (191 : Int32)), .unset, .unset] [(.int (159 : Int32))]))
            refine Gl.go ?_ (fun t k => XS.istore X0.here hx rfl (hb hby d1_90) rfl (l' := #[.val (.ref a), .val (.int i), .val (.int to), .val (.int ((B i) &&& (255 : Int32))), .val (.int (3 : Int32)), .val (.int (128 : Int32)), .val (.int (159 : Int32)), .unset, .unset]) rfl k)
            show Gl _ _ _ _ (s₁.setTop (mkF m 92 #[.val (.ref a), .val (.int i), .val (.int to), .val (.int ((B i) &&& (255 : Int32))), .val (.int (3 : Int32)), .val (.int (128 : Int32)), .val (.int (159 : Int32)), .unset, .unset] []))
            refine Gl.go ?_ (fun t k => XS.goto X0.here hx rfl (pc0 := 92) (pc' := 146) rfl (hb hby d1_92) (by decide) (by decide) k)
            show Gl _ _ _ _ (s₁.setTop (mkF m 146 #[.val (.ref a), .val (.int i), .val (.int to), .val (.int ((B i) &&& (255 : Int32))), .val (.int (3 : Int32)), .val (.int (128 : Int32)), .val (.int (159 : Int32)), .unset, .unset] []))
            refine Gl.go ?_ (fun t k => XS.iload X0.here hx rfl (hb hby d1_146) rfl k)
            show Gl _ _ _ _ (s₁.setTop (mkF m 148 #[.val (.ref a), .val (.int i), .val (.int to), .val (.int ((B i) &&& (255 : Int32))), .val (.int (3 : Int32)), .val (.int (128 : Int32)), .val (.int (159 : Int32)), .unset, .unset] [(.int (3 : Int32))]))
            refine Gl.go ?_ (fun t k => XS.ifNo X0.here hx rfl (hb hby d1_148) rfl ((if0 _ _).trans (tlt (by decide : (0 : Int32) < (3 : Int32))).2.2.2) k)
            show Gl _ _ _ _ (s₁.setTop (mkF m 151 #[.val (.ref a), .val (.int i), .val (.int to), .val (.int ((B i) &&& (255 : Int32))), .val (.int (3 : Int32)), .val (.int (128 : Int32)), .val (.int (159 : Int32)), .unset, .unset] []))
            refine Gl.go ?_ (fun t k => XS.iloadN X0.here hx rfl (hb hby d1_151) rfl k)
            show Gl _ _ _ _ (s₁.setTop (mkF m 152 #[.val (.ref a), .val (.int i), .val (.int to), .val (.int ((B i) &&& (255 : Int32))), .val (.int (3 : Int32)), .val (.int (128 : Int32)), .val (.int (159 : Int32)), .unset, .unset] [(.int to)]))
            refine Gl.go ?_ (fun t k => XS.iloadN X0.here hx rfl (hb hby d1_152) rfl k)
            show Gl _ _ _ _ (s₁.setTop (mkF m 153 #[.val (.ref a), .val (.int i), .val (.int to), .val (.int ((B i) &&& (255 : Int32))), .val (.int (3 : Int32)), .val (.int (128 : Int32)), .val (.int (159 : Int32)), .unset, .unset] [(.int i), (.int to)]))
            refine Gl.go ?_ (fun t k => XS.isub X0.here hx rfl (hb hby d1_153) rfl k)
            show Gl _ _ _ _ (s₁.setTop (mkF m 154 #[.val (.ref a), .val (.int i), .val (.int to), .val (.int ((B i) &&& (255 : Int32))), .val (.int (3 : Int32)), .val (.int (128 : Int32)), .val (.int (159 : Int32)), .unset, .unset] [(.int (to - i))]))
            refine Gl.go ?_ (fun t k => XS.iload X0.here hx rfl (hb hby d1_154) rfl k)
            show Gl _ _ _ _ (s₁.setTop (mkF m 156 #[.val (.ref a), .val (.int i), .val (.int to), .val (.int ((B i) &&& (255 : Int32))), .val (.int (3 : Int32)), .val (.int (128 : Int32)), .val (.int (159 : Int32)), .unset, .unset] [(.int (3 : Int32)), (.int (to - i))]))
            by_cases hc57 : (to - i) < (3 : Int32)
            · refine Gl.go ?_ (fun t k => XS.icmpYes X0.here hx rfl (pc0 := 156) (pc' := 191) rfl (hb hby d1_156) rfl (tlt hc57).1 (by decide) (by decide) k)
              show Gl _ _ _ _ (s₁.setTop (mkF m 191 #[.val (.ref a), .val (.int i), .val (.int to), .val (.int ((B i) &&& (255 : Int32))), .val (.int (3 : Int32)), .val (.int (128 : Int32)), .val (.int (159 : Int32)), .unset, .unset] []))
              refine Gl.go ?_ (fun t k => XS.iconst X0.here hx rfl (hb hby d1_191) k)
              show Gl _ _ _ _ (s₁.setTop (mkF m 192 #[.val (.ref a), .val (.int i), .val (.int to), .val (.int ((B i) &&& (255 : Int32))), .val (.int (3 : Int32)), .val (.int (128 : Int32)), .val (.int (159 : Int32)), .unset, .unset] [(.int (0 : Int32))]))
              refine Gl.go ?_ (fun t k => XS.istore X0.here hx rfl (hb hby d1_192) rfl (l' := #[.val (.ref a), .val (.int i), .val (.int to), .val (.int ((B i) &&& (255 : Int32))), .val (.int (3 : Int32)), .val (.int (128 : Int32)), .val (.int (159 : Int32)), .val (.int (0 : Int32)), .unset]) rfl k)
              show Gl _ _ _ _ (s₁.setTop (mkF m 194 #[.val (.ref a), .val (.int i), .val (.int to), .val (.int ((B i) &&& (255 : Int32))), .val (.int (3 : Int32)), .val (.int (128 : Int32)), .val (.int (159 : Int32)), .val (.int (0 : Int32)), .unset] []))
              refine Gl.go ?_ (fun t k => XS.iconst X0.here hx rfl (hb hby d1_194) k)
              show Gl _ _ _ _ (s₁.setTop (mkF m 195 #[.val (.ref a), .val (.int i), .val (.int to), .val (.int ((B i) &&& (255 : Int32))), .val (.int (3 : Int32)), .val (.int (128 : Int32)), .val (.int (159 : Int32)), .val (.int (0 : Int32)), .unset] [(.int (2 : Int32))]))
              refine Gl.go ?_ (fun t k => XS.istore X0.here hx rfl (hb hby d1_195) rfl (l' := #[.val (.ref a), .val (.int i), .val (.int to), .val (.int ((B i) &&& (255 : Int32))), .val (.int (3 : Int32)), .val (.int (128 : Int32)), .val (.int (159 : Int32)), .val (.int (0 : Int32)), .val (.int (2 : Int32))]) rfl k)
              show Gl _ _ _ _ (s₁.setTop (mkF m 197 #[.val (.ref a), .val (.int i), .val (.int to), .val (.int ((B i) &&& (255 : Int32))), .val (.int (3 : Int32)), .val (.int (128 : Int32)), .val (.int (159 : Int32)), .val (.int (0 : Int32)), .val (.int (2 : Int32))] []))
              refine Gl.go ?_ (fun t k => XS.iload X0.here hx rfl (hb hby d1_197) rfl k)
              show Gl _ _ _ _ (s₁.setTop (mkF m 199 #[.val (.ref a), .val (.int i), .val (.int to), .val (.int ((B i) &&& (255 : Int32))), .val (.int (3 : Int32)), .val (.int (128 : Int32)), .val (.int (159 : Int32)), .val (.int (0 : Int32)), .val (.int (2 : Int32))] [(.int (0 : Int32))]))
              refine Gl.go ?_ (fun t k => XS.ifYes X0.here hx rfl (pc0 := 199) (pc' := 238) rfl (hb hby d1_199) rfl ((if0 _ _).trans (teq (by decide : (0 : Int32) = (0 : Int32))).1) (by decide) (by decide) k)
              show Gl _ _ _ _ (s₁.setTop (mkF m 238 #[.val (.ref a), .val (.int i), .val (.int to), .val (.int ((B i) &&& (255 : Int32))), .val (.int (3 : Int32)), .val (.int (128 : Int32)), .val (.int (159 : Int32)), .val (.int (0 : Int32)), .val (.int (2 : Int32))] []))
              refine Gl.go ?_ (fun t k => XS.iload X0.here hx rfl (hb hby d1_238) rfl k)
              show Gl _ _ _ _ (s₁.setTop (mkF m 240 #[.val (.ref a), .val (.int i), .val (.int to), .val (.int ((B i) &&& (255 : Int32))), .val (.int (3 : Int32)), .val (.int (128 : Int32)), .val (.int (159 : Int32)), .val (.int (0 : Int32)), .val (.int (2 : Int32))] [(.int (0 : Int32))]))
              refine Gl.go ?_ (fun t k => XS.ifYes X0.here hx rfl (pc0 := 240) (pc' := 250) rfl (hb hby d1_240) rfl ((if0 _ _).trans (teq (by decide : (0 : Int32) = (0 : Int32))).1) (by decide) (by decide) k)
              show Gl _ _ _ _ (s₁.setTop (mkF m 250 #[.val (.ref a), .val (.int i), .val (.int to), .val (.int ((B i) &&& (255 : Int32))), .val (.int (3 : Int32)), .val (.int (128 : Int32)), .val (.int (159 : Int32)), .val (.int (0 : Int32)), .val (.int (2 : Int32))] []))
              refine Gl.go ?_ (fun t k => XS.iconst X0.here hx rfl (hb hby d1_250) k)
              show Gl _ _ _ _ (s₁.setTop (mkF m 251 #[.val (.ref a), .val (.int i), .val (.int to), .val (.int ((B i) &&& (255 : Int32))), .val (.int (3 : Int32)), .val (.int (128 : Int32)), .val (.int (159 : Int32)), .val (.int (0 : Int32)), .val (.int (2 : Int32))] [(.int (-1 : Int32))]))
              obtain ⟨fs, hr, hrun, hended, hW, hsame⟩ := X0.leave (v := some (.int (-1 : Int32))) (fun h => by rw [Bd.returns] at h; cases h) (BodyLoose.notSynchronized Bd)
              exact Gl.mk ⟨_, _, retI X0 hx Bd.returns (hb hby d1_251) hr, hrun, hended, _, _, rfl, ⟨congrArg (fun z => some (Value.int z)) ((if_neg hc30).trans ((if_pos hc31).trans ((if_neg hc32).trans ((if_neg hc51).trans ((if_pos hc56).trans ((if_pos hc57).trans (rfl))))))).symm, rfl, e0⟩, ⟨_, rfl⟩, hW, hsame.mono (by decide) (by decide)⟩
            · refine Gl.go ?_ (fun t k => XS.icmpNo X0.here hx rfl (hb hby d1_156) rfl (flt hc57).1 k)
              show Gl _ _ _ _ (s₁.setTop (mkF m 159 #[.val (.ref a), .val (.int i), .val (.int to), .val (.int ((B i) &&& (255 : Int32))), .val (.int (3 : Int32)), .val (.int (128 : Int32)), .val (.int (159 : Int32)), .unset, .unset] []))
              refine Gl.go ?_ (fun t k => XS.aloadN X0.here hx rfl (hb hby d1_159) rfl rfl k)
              show Gl _ _ _ _ (s₁.setTop (mkF m 160 #[.val (.ref a), .val (.int i), .val (.int to), .val (.int ((B i) &&& (255 : Int32))), .val (.int (3 : Int32)), .val (.int (128 : Int32)), .val (.int (159 : Int32)), .unset, .unset] [(.ref a)]))
              refine Gl.go ?_ (fun t k => XS.iloadN X0.here hx rfl (hb hby d1_160) rfl k)
              show Gl _ _ _ _ (s₁.setTop (mkF m 161 #[.val (.ref a), .val (.int i), .val (.int to), .val (.int ((B i) &&& (255 : Int32))), .val (.int (3 : Int32)), .val (.int (128 : Int32)), .val (.int (159 : Int32)), .unset, .unset] [(.int i), (.ref a)]))
              refine Gl.go ?_ (fun t k => XS.iconst X0.here hx rfl (hb hby d1_161) k)
              show Gl _ _ _ _ (s₁.setTop (mkF m 162 #[.val (.ref a), .val (.int i), .val (.int to), .val (.int ((B i) &&& (255 : Int32))), .val (.int (3 : Int32)), .val (.int (128 : Int32)), .val (.int (159 : Int32)), .unset, .unset] [(.int (1 : Int32)), (.int i), (.ref a)]))
              refine Gl.go ?_ (fun t k => XS.iadd X0.here hx rfl (hb hby d1_162) rfl k)
              show Gl _ _ _ _ (s₁.setTop (mkF m 163 #[.val (.ref a), .val (.int i), .val (.int to), .val (.int ((B i) &&& (255 : Int32))), .val (.int (3 : Int32)), .val (.int (128 : Int32)), .val (.int (159 : Int32)), .unset, .unset] [(.int (i + (1 : Int32))), (.ref a)]))
              refine Gl.go ?_ (BA.rdB hB X0 hx hZ e0 hi1.1 hi1.2 (g := (mkF m 163 #[.val (.ref a), .val (.int i), .val (.int to), .val (.int ((B i) &&& (255 : Int32))), .val (.int (3 : Int32)), .val (.int (128 : Int32)), .val (.int (159 : Int32)), .unset, .unset] [(.int (i + (1 : Int32))), (.ref a)])) rfl rfl (hb hby d1_163))
              show Gl _ _ _ _ (s₁.setTop (mkF m 164 #[.val (.ref a), .val (.int i), .val (.int to), .val (.int ((B i) &&& (255 : Int32))), .val (.int (3 : Int32)), .val (.int (128 : Int32)), .val (.int (159 : Int32)), .unset, .unset] [(.int (B (i + (1 : Int32))))]))
              refine Gl.go ?_ (fun t k => XS.sipush X0.here hx rfl (hb hby d1_164) k)
              show Gl _ _ _ _ (s₁.setTop (mkF m 167 #[.val (.ref a), .val (.int i), .val (.int to), .val (.int ((B i) &&& (255 : Int32))), .val (.int (3 : Int32)), .val (.int (128 : Int32)), .val (.int (159 : Int32)), .unset, .unset] [(.int (255 : Int32)), (.int (B (i + (1 : Int32))))]))
              refine Gl.go ?_ (fun t k => XS.iand X0.here hx rfl (hb hby d1_167) rfl k)
              show Gl _ _ _ _ (s₁.setTop (mkF m 168 #[.val (.ref a), .val (.int i), .val (.int to), .val (.int ((B i) &&& (255 : Int32))), .val (.int (3 : Int32)), .val (.int (128 : Int32)), .val (.int (159 : Int32)), .unset, .unset] [(.int ((B (i + (1 : Int32))) &&& (255 : Int32)))]))
              refine Gl.go ?_ (fun t k => XS.iload X0.here hx rfl (hb hby d1_168) rfl k)
              show Gl _ _ _ _ (s₁.setTop (mkF m 170 #[.val (.ref a), .val (.int i), .val (.int to), .val (.int ((B i) &&& (255 : Int32))), .val (.int (3 : Int32)), .val (.int (128 : Int32)), .val (.int (159 : Int32)), .unset, .unset] [(.int (128 : Int32)), (.int ((B (i + (1 : Int32))) &&& (255 : Int32)))]))
              by_cases hc58 : ((B (i + (1 : Int32))) &&& (255 : Int32)) < (128 : Int32)
              · refine Gl.go ?_ (fun t k => XS.icmpYes X0.here hx rfl (pc0 := 170) (pc' := 191) rfl (hb hby d1_170) rfl (tlt hc58).1 (by decide) (by decide) k)
                show Gl _ _ _ _ (s₁.setTop (mkF m 191 #[.val (.ref a), .val (.int i), .val (.int to), .val (.int ((B i) &&& (255 : Int32))), .val (.int (3 : Int32)), .val (.int (128 : Int32)), .val (.int (159 : Int32)), .unset, .unset] []))
                refine Gl.go ?_ (fun t k => XS.iconst X0.here hx rfl (hb hby d1_191) k)
                show Gl _ _ _ _ (s₁.setTop (mkF m 192 #[.val (.ref a), .val (.int i), .val (.int to), .val (.int ((B i) &&& (255 : Int32))), .val (.int (3 : Int32)), .val (.int (128 : Int32)), .val (.int (159 : Int32)), .unset, .unset] [(.int (0 : Int32))]))
                refine Gl.go ?_ (fun t k => XS.istore X0.here hx rfl (hb hby d1_192) rfl (l' := #[.val (.ref a), .val (.int i), .val (.int to), .val (.int ((B i) &&& (255 : Int32))), .val (.int (3 : Int32)), .val (.int (128 : Int32)), .val (.int (159 : Int32)), .val (.int (0 : Int32)), .unset]) rfl k)
                show Gl _ _ _ _ (s₁.setTop (mkF m 194 #[.val (.ref a), .val (.int i), .val (.int to), .val (.int ((B i) &&& (255 : Int32))), .val (.int (3 : Int32)), .val (.int (128 : Int32)), .val (.int (159 : Int32)), .val (.int (0 : Int32)), .unset] []))
                refine Gl.go ?_ (fun t k => XS.iconst X0.here hx rfl (hb hby d1_194) k)
                show Gl _ _ _ _ (s₁.setTop (mkF m 195 #[.val (.ref a), .val (.int i), .val (.int to), .val (.int ((B i) &&& (255 : Int32))), .val (.int (3 : Int32)), .val (.int (128 : Int32)), .val (.int (159 : Int32)), .val (.int (0 : Int32)), .unset] [(.int (2 : Int32))]))
                refine Gl.go ?_ (fun t k => XS.istore X0.here hx rfl (hb hby d1_195) rfl (l' := #[.val (.ref a), .val (.int i), .val (.int to), .val (.int ((B i) &&& (255 : Int32))), .val (.int (3 : Int32)), .val (.int (128 : Int32)), .val (.int (159 : Int32)), .val (.int (0 : Int32)), .val (.int (2 : Int32))]) rfl k)
                show Gl _ _ _ _ (s₁.setTop (mkF m 197 #[.val (.ref a), .val (.int i), .val (.int to), .val (.int ((B i) &&& (255 : Int32))), .val (.int (3 : Int32)), .val (.int (128 : Int32)), .val (.int (159 : Int32)), .val (.int (0 : Int32)), .val (.int (2 : Int32))] []))
                refine Gl.go ?_ (fun t k => XS.iload X0.here hx rfl (hb hby d1_197) rfl k)
                show Gl _ _ _ _ (s₁.setTop (mkF m 199 #[.val (.ref a), .val (.int i), .val (.int to), .val (.int ((B i) &&& (255 : Int32))), .val (.int (3 : Int32)), .val (.int (128 : Int32)), .val (.int (159 : Int32)), .val (.int (0 : Int32)), .val (.int (2 : Int32))] [(.int (0 : Int32))]))
                refine Gl.go ?_ (fun t k => XS.ifYes X0.here hx rfl (pc0 := 199) (pc' := 238) rfl (hb hby d1_199) rfl ((if0 _ _).trans (teq (by decide : (0 : Int32) = (0 : Int32))).1) (by decide) (by decide) k)
                show Gl _ _ _ _ (s₁.setTop (mkF m 238 #[.val (.ref a), .val (.int i), .val (.int to), .val (.int ((B i) &&& (255 : Int32))), .val (.int (3 : Int32)), .val (.int (128 : Int32)), .val (.int (159 : Int32)), .val (.int (0 : Int32)), .val (.int (2 : Int32))] []))
                refine Gl.go ?_ (fun t k => XS.iload X0.here hx rfl (hb hby d1_238) rfl k)
                show Gl _ _ _ _ (s₁.setTop (mkF m 240 #[.val (.ref a), .val (.int i), .val (.int to), .val (.int ((B i) &&& (255 : Int32))), .val (.int (3 : Int32)), .val (.int (128 : Int32)), .val (.int (159 : Int32)), .val (.int (0 : Int32)), .val (.int (2 : Int32))] [(.int (0 : Int32))]))
                refine Gl.go ?_ (fun t k => XS.ifYes X0.here hx rfl (pc0 := 240) (pc' := 250) rfl (hb hby d1_240) rfl ((if0 _ _).trans (teq (by decide : (0 : Int32) = (0 : Int32))).1) (by decide) (by decide) k)
                show Gl _ _ _ _ (s₁.setTop (mkF m 250 #[.val (.ref a), .val (.int i), .val (.int to), .val (.int ((B i) &&& (255 : Int32))), .val (.int (3 : Int32)), .val (.int (128 : Int32)), .val (.int (159 : Int32)), .val (.int (0 : Int32)), .val (.int (2 : Int32))] []))
                refine Gl.go ?_ (fun t k => XS.iconst X0.here hx rfl (hb hby d1_250) k)
                show Gl _ _ _ _ (s₁.setTop (mkF m 251 #[.val (.ref a), .val (.int i), .val (.int to), .val (.int ((B i) &&& (255 : Int32))), .val (.int (3 : Int32)), .val (.int (128 : Int32)), .val (.int (159 : Int32)), .val (.int (0 : Int32)), .val (.int (2 : Int32))] [(.int (-1 : Int32))]))
                obtain ⟨fs, hr, hrun, hended, hW, hsame⟩ := X0.leave (v := some (.int (-1 : Int32))) (fun h => by rw [Bd.returns] at h; cases h) (BodyLoose.notSynchronized Bd)
                exact Gl.mk ⟨_, _, retI X0 hx Bd.returns (hb hby d1_251) hr, hrun, hended, _, _, rfl, ⟨congrArg (fun z => some (Value.int z)) ((if_neg hc30).trans ((if_pos hc31).trans ((if_neg hc32).trans ((if_neg hc51).trans ((if_pos hc56).trans ((if_neg hc57).trans ((if_pos hc58).trans (rfl)))))))).symm, rfl, e0⟩, ⟨_, rfl⟩, hW, hsame.mono (by decide) (by decide)⟩
              · refine Gl.go ?_ (fun t k => XS.icmpNo X0.here hx rfl (hb hby d1_170) rfl (flt hc58).1 k)
                show Gl _ _ _ _ (s₁.setTop (mkF m 173 #[.val (.ref a), .val (.int i), .val (.int to), .val (.int ((B i) &&& (255 : Int32))), .val (.int (3 : Int32)), .val (.int (128 : Int32)), .val (.int (159 : Int32)), .unset, .unset] []))
                refine Gl.go ?_ (fun t k => XS.aloadN X0.here hx rfl (hb hby d1_173) rfl rfl k)
                show Gl _ _ _ _ (s₁.setTop (mkF m 174 #[.val (.ref a), .val (.int i), .val (.int to), .val (.int ((B i) &&& (255 : Int32))), .val (.int (3 : Int32)), .val (.int (128 : Int32)), .val (.int (159 : Int32)), .unset, .unset] [(.ref a)]))
                refine Gl.go ?_ (fun t k => XS.iloadN X0.here hx rfl (hb hby d1_174) rfl k)
                show Gl _ _ _ _ (s₁.setTop (mkF m 175 #[.val (.ref a), .val (.int i), .val (.int to), .val (.int ((B i) &&& (255 : Int32))), .val (.int (3 : Int32)), .val (.int (128 : Int32)), .val (.int (159 : Int32)), .unset, .unset] [(.int i), (.ref a)]))
                refine Gl.go ?_ (fun t k => XS.iconst X0.here hx rfl (hb hby d1_175) k)
                show Gl _ _ _ _ (s₁.setTop (mkF m 176 #[.val (.ref a), .val (.int i), .val (.int to), .val (.int ((B i) &&& (255 : Int32))), .val (.int (3 : Int32)), .val (.int (128 : Int32)), .val (.int (159 : Int32)), .unset, .unset] [(.int (1 : Int32)), (.int i), (.ref a)]))
                refine Gl.go ?_ (fun t k => XS.iadd X0.here hx rfl (hb hby d1_176) rfl k)
                show Gl _ _ _ _ (s₁.setTop (mkF m 177 #[.val (.ref a), .val (.int i), .val (.int to), .val (.int ((B i) &&& (255 : Int32))), .val (.int (3 : Int32)), .val (.int (128 : Int32)), .val (.int (159 : Int32)), .unset, .unset] [(.int (i + (1 : Int32))), (.ref a)]))
                refine Gl.go ?_ (BA.rdB hB X0 hx hZ e0 hi1.1 hi1.2 (g := (mkF m 177 #[.val (.ref a), .val (.int i), .val (.int to), .val (.int ((B i) &&& (255 : Int32))), .val (.int (3 : Int32)), .val (.int (128 : Int32)), .val (.int (159 : Int32)), .unset, .unset] [(.int (i + (1 : Int32))), (.ref a)])) rfl rfl (hb hby d1_177))
                show Gl _ _ _ _ (s₁.setTop (mkF m 178 #[.val (.ref a), .val (.int i), .val (.int to), .val (.int ((B i) &&& (255 : Int32))), .val (.int (3 : Int32)), .val (.int (128 : Int32)), .val (.int (159 : Int32)), .unset, .unset] [(.int (B (i + (1 : Int32))))]))
                refine Gl.go ?_ (fun t k => XS.sipush X0.here hx rfl (hb hby d1_178) k)
                show Gl _ _ _ _ (s₁.setTop (mkF m 181 #[.val (.ref a), .val (.int i), .val (.int to), .val (.int ((B i) &&& (255 : Int32))), .val (.int (3 : Int32)), .val (.int (128 : Int32)), .val (.int (159 : Int32)), .unset, .unset] [(.int (255 : Int32)), (.int (B (i + (1 : Int32))))]))
                refine Gl.go ?_ (fun t k => XS.iand X0.here hx rfl (hb hby d1_181) rfl k)
                show Gl _ _ _ _ (s₁.setTop (mkF m 182 #[.val (.ref a), .val (.int i), .val (.int to), .val (.int ((B i) &&& (255 : Int32))), .val (.int (3 : Int32)), .val (.int (128 : Int32)), .val (.int (159 : Int32)), .unset, .unset] [(.int ((B (i + (1 : Int32))) &&& (255 : Int32)))]))
                refine Gl.go ?_ (fun t k => XS.iload X0.here hx rfl (hb hby d1_182) rfl k)
                show Gl _ _ _ _ (s₁.setTop (mkF m 184 #[.val (.ref a), .val (.int i), .val (.int to), .val (.int ((B i) &&& (255 : Int32))), .val (.int (3 : Int32)), .val (.int (128 : Int32)), .val (.int (159 : Int32)), .unset, .unset] [(.int (159 : Int32)), (.int ((B (i + (1 : Int32))) &&& (255 : Int32)))]))
                by_cases hc59 : (159 : Int32) < ((B (i + (1 : Int32))) &&& (255 : Int32))
                · refine Gl.go ?_ (fun t k => XS.icmpYes X0.here hx rfl (pc0 := 184) (pc' := 191) rfl (hb hby d1_184) rfl (tlt hc59).2.2.1 (by decide) (by decide) k)
                  show Gl _ _ _ _ (s₁.setTop (mkF m 191 #[.val (.ref a), .val (.int i), .val (.int to), .val (.int ((B i) &&& (255 : Int32))), .val (.int (3 : Int32)), .val (.int (128 : Int32)), .val (.int (159 : Int32)), .unset, .unset] []))
                  refine Gl.go ?_ (fun t k => XS.iconst X0.here hx rfl (hb hby d1_191) k)
                  show Gl _ _ _ _ (s₁.setTop (mkF m 192 #[.val (.ref a), .val (.int i), .val (.int to), .val (.int ((B i) &&& (255 : Int32))), .val (.int (3 : Int32)), .val (.int (128 : Int32)), .val (.int (159 : Int32)), .unset, .unset] [(.int (0 : Int32))]))
                  refine Gl.go ?_ (fun t k => XS.istore X0.here hx rfl (hb hby d1_192) rfl (l' := #[.val (.ref a), .val (.int i), .val (.int to), .val (.int ((B i) &&& (255 : Int32))), .val (.int (3 : Int32)), .val (.int (128 : Int32)), .val (.int (159 : Int32)), .val (.int (0 : Int32)), .unset]) rfl k)
                  show Gl _ _ _ _ (s₁.setTop (mkF m 194 #[.val (.ref a), .val (.int i), .val (.int to), .val (.int ((B i) &&& (255 : Int32))), .val (.int (3 : Int32)), .val (.int (128 : Int32)), .val (.int (159 : Int32)), .val (.int (0 : Int32)), .unset] []))
                  refine Gl.go ?_ (fun t k => XS.iconst X0.here hx rfl (hb hby d1_194) k)
                  show Gl _ _ _ _ (s₁.setTop (mkF m 195 #[.val (.ref a), .val (.int i), .val (.int to), .val (.int ((B i) &&& (255 : Int32))), .val (.int (3 : Int32)), .val (.int (128 : Int32)), .val (.int (159 : Int32)), .val (.int (0 : Int32)), .unset] [(.int (2 : Int32))]))
                  refine Gl.go ?_ (fun t k => XS.istore X0.here hx rfl (hb hby d1_195) rfl (l' := #[.val (.ref a), .val (.int i), .val (.int to), .val (.int ((B i) &&& (255 : Int32))), .val (.int (3 : Int32)), .val (.int (128 : Int32)), .val (.int (159 : Int32)), .val (.int (0 : Int32)), .val (.int (2 : Int32))]) rfl k)
                  show Gl _ _ _ _ (s₁.setTop (mkF m 197 #[.val (.ref a), .val (.int i), .val (.int to), .val (.int ((B i) &&& (255 : Int32))), .val (.int (3 : Int32)), .val (.int (128 : Int32)), .val (.int (159 : Int32)), .val (.int (0 : Int32)), .val (.int (2 : Int32))] []))
                  refine Gl.go ?_ (fun t k => XS.iload X0.here hx rfl (hb hby d1_197) rfl k)
                  show Gl _ _ _ _ (s₁.setTop (mkF m 199 #[.val (.ref a), .val (.int i), .val (.int to), .val (.int ((B i) &&& (255 : Int32))), .val (.int (3 : Int32)), .val (.int (128 : Int32)), .val (.int (159 : Int32)), .val (.int (0 : Int32)), .val (.int (2 : Int32))] [(.int (0 : Int32))]))
                  refine Gl.go ?_ (fun t k => XS.ifYes X0.here hx rfl (pc0 := 199) (pc' := 238) rfl (hb hby d1_199) rfl ((if0 _ _).trans (teq (by decide : (0 : Int32) = (0 : Int32))).1) (by decide) (by decide) k)
                  show Gl _ _ _ _ (s₁.setTop (mkF m 238 #[.val (.ref a), .val (.int i), .val (.int to), .val (.int ((B i) &&& (255 : Int32))), .val (.int (3 : Int32)), .val (.int (128 : Int32)), .val (.int (159 : Int32)), .val (.int (0 : Int32)), .val (.int (2 : Int32))] []))
                  refine Gl.go ?_ (fun t k => XS.iload X0.here hx rfl (hb hby d1_238) rfl k)
                  show Gl _ _ _ _ (s₁.setTop (mkF m 240 #[.val (.ref a), .val (.int i), .val (.int to), .val (.int ((B i) &&& (255 : Int32))), .val (.int (3 : Int32)), .val (.int (128 : Int32)), .val (.int (159 : Int32)), .val (.int (0 : Int32)), .val (.int (2 : Int32))] [(.int (0 : Int32))]))
                  refine Gl.go ?_ (fun t k => XS.ifYes X0.here hx rfl (pc0 := 240) (pc' := 250) rfl (hb hby d1_240) rfl ((if0 _ _).trans (teq (by decide : (0 : Int32) = (0 : Int32))).1) (by decide) (by decide) k)
                  show Gl _ _ _ _ (s₁.setTop (mkF m 250 #[.val (.ref a), .val (.int i), .val (.int to), .val (.int ((B i) &&& (255 : Int32))), .val (.int (3 : Int32)), .val (.int (128 : Int32)), .val (.int (159 : Int32)), .val (.int (0 : Int32)), .val (.int (2 : Int32))] []))
                  refine Gl.go ?_ (fun t k => XS.iconst X0.here hx rfl (hb hby d1_250) k)
                  show Gl _ _ _ _ (s₁.setTop (mkF m 251 #[.val (.ref a), .val (.int i), .val (.int to), .val (.int ((B i) &&& (255 : Int32))), .val (.int (3 : Int32)), .val (.int (128 : Int32)), .val (.int (159 : Int32)), .val (.int (0 : Int32)), .val (.int (2 : Int32))] [(.int (-1 : Int32))]))
                  obtain ⟨fs, hr, hrun, hended, hW, hsame⟩ := X0.leave (v := some (.int (-1 : Int32))) (fun h => by rw [Bd.returns] at h; cases h) (BodyLoose.notSynchronized Bd)
                  exact Gl.mk ⟨_, _, retI X0 hx Bd.returns (hb hby d1_251) hr, hrun, hended, _, _, rfl, ⟨congrArg (fun z => some (Value.int z)) ((if_neg hc30).trans ((if_pos hc31).trans ((if_neg hc32).trans ((if_neg hc51).trans ((if_pos hc56).trans ((if_neg hc57).trans ((if_neg hc58).trans ((if_pos hc59).trans (rfl))))))))).symm, rfl, e0⟩, ⟨_, rfl⟩, hW, hsame.mono (by decide) (by decide)⟩
                · refine Gl.go ?_ (fun t k => XS.icmpNo X0.here hx rfl (hb hby d1_184) rfl (flt hc59).2.2.1 k)
                  show Gl _ _ _ _ (s₁.setTop (mkF m 187 #[.val (.ref a), .val (.int i), .val (.int to), .val (.int ((B i) &&& (255 : Int32))), .val (.int (3 : Int32)), .val (.int (128 : Int32)), .val (.int (159 : Int32)), .unset, .unset] []))
                  refine Gl.go ?_ (fun t k => XS.iconst X0.here hx rfl (hb hby d1_187) k)
                  show Gl _ _ _ _ (s₁.setTop (mkF m 188 #[.val (.ref a), .val (.int i), .val (.int to), .val (.int ((B i) &&& (255 : Int32))), .val (.int (3 : Int32)), .val (.int (128 : Int32)), .val (.int (159 : Int32)), .unset, .unset] [(.int (1 : Int32))]))
                  refine Gl.go ?_ (fun t k => XS.goto X0.here hx rfl (pc0 := 188) (pc' := 192) rfl (hb hby d1_188) (by decide) (by decide) k)
                  show Gl _ _ _ _ (s₁.setTop (mkF m 192 #[.val (.ref a), .val (.int i), .val (.int to), .val (.int ((B i) &&& (255 : Int32))), .val (.int (3 : Int32)), .val (.int (128 : Int32)), .val (.int (159 : Int32)), .unset, .unset] [(.int (1 : Int32))]))
                  refine Gl.go ?_ (fun t k => XS.istore X0.here hx rfl (hb hby d1_192) rfl (l' := #[.val (.ref a), .val (.int i), .val (.int to), .val (.int ((B i) &&& (255 : Int32))), .val (.int (3 : Int32)), .val (.int (128 : Int32)), .val (.int (159 : Int32)), .val (.int (1 : Int32)), .unset]) rfl k)
                  show Gl _ _ _ _ (s₁.setTop (mkF m 194 #[.val (.ref a), .val (.int i), .val (.int to), .val (.int ((B i) &&& (255 : Int32))), .val (.int (3 : Int32)), .val (.int (128 : Int32)), .val (.int (159 : Int32)), .val (.int (1 : Int32)), .unset] []))
                  refine Gl.go ?_ (fun t k => XS.iconst X0.here hx rfl (hb hby d1_194) k)
                  show Gl _ _ _ _ (s₁.setTop (mkF m 195 #[.val (.ref a), .val (.int i), .val (.int to), .val (.int ((B i) &&& (255 : Int32))), .val (.int (3 : Int32)), .val (.int (128 : Int32)), .val (.int (159 : Int32)), .val (.int (1 : Int32)), .unset] [(.int (2 : Int32))]))
                  refine Gl.go ?_ (fun t k => XS.istore X0.here hx rfl (hb hby d1_195) rfl (l' := #[.val (.ref a), .val (.int i), .val (.int to), .val (.int ((B i) &&& (255 : Int32))), .val (.int (3 : Int32)), .val (.int (128 : Int32)), .val (.int (159 : Int32)), .val (.int (1 : Int32)), .val (.int (2 : Int32))]) rfl k)
                  show Gl _ _ _ _ (s₁.setTop (mkF m 197 #[.val (.ref a), .val (.int i), .val (.int to), .val (.int ((B i) &&& (255 : Int32))), .val (.int (3 : Int32)), .val (.int (128 : Int32)), .val (.int (159 : Int32)), .val (.int (1 : Int32)), .val (.int (2 : Int32))] []))
                  refine Gl.go ?_ (fun t k => XS.iload X0.here hx rfl (hb hby d1_197) rfl k)
                  show Gl _ _ _ _ (s₁.setTop (mkF m 199 #[.val (.ref a), .val (.int i), .val (.int to), .val (.int ((B i) &&& (255 : Int32))), .val (.int (3 : Int32)), .val (.int (128 : Int32)), .val (.int (159 : Int32)), .val (.int (1 : Int32)), .val (.int (2 : Int32))] [(.int (1 : Int32))]))
                  refine Gl.go ?_ (fun t k => XS.ifNo X0.here hx rfl (hb hby d1_199) rfl ((if0 _ _).trans (feq (by decide : ¬ ((1 : Int32) = (0 : Int32)))).1) k)
                  show Gl _ _ _ _ (s₁.setTop (mkF m 202 #[.val (.ref a), .val (.int i), .val (.int to), .val (.int ((B i) &&& (255 : Int32))), .val (.int (3 : Int32)), .val (.int (128 : Int32)), .val (.int (159 : Int32)), .val (.int (1 : Int32)), .val (.int (2 : Int32))] []))
                  refine Gl.go ?_ (fun t k => XS.iload X0.here hx rfl (hb hby d1_202) rfl k)
                  show Gl _ _ _ _ (s₁.setTop (mkF m 204 #[.val (.ref a), .val (.int i), .val (.int to), .val (.int ((B i) &&& (255 : Int32))), .val (.int (3 : Int32)), .val (.int (128 : Int32)), .val (.int (159 : Int32)), .val (.int (1 : Int32)), .val (.int (2 : Int32))] [(.int (2 : Int32))]))
                  refine Gl.go ?_ (fun t k => XS.iload X0.here hx rfl (hb hby d1_204) rfl k)
                  show Gl _ _ _ _ (s₁.setTop (mkF m 206 #[.val (.ref a), .val (.int i), .val (.int to), .val (.int ((B i) &&& (255 : Int32))), .val (.int (3 : Int32)), .val (.int (128 : Int32)), .val (.int (159 : Int32)), .val (.int (1 : Int32)), .val (.int (2 : Int32))] [(.int (3 : Int32)), (.int (2 : Int32))]))
                  refine Gl.go ?_ (fun t k => XS.icmpNo X0.here hx rfl (hb hby d1_206) rfl (tlt (by decide : (2 : Int32) < (3 : Int32))).2.1 k)
                  show Gl _ _ _ _ (s₁.setTop (mkF m 209 #[.val (.ref a), .val (.int i), .val (.int to), .val (.int ((B i) &&& (255 : Int32))), .val (.int (3 : Int32)), .val (.int (128 : Int32)), .val (.int (159 : Int32)), .val (.int (1 : Int32)), .val (.int (2 : Int32))] []))
                  refine Gl.go ?_ (fun t k => XS.aloadN X0.here hx rfl (hb hby d1_209) rfl rfl k)
                  show Gl _ _ _ _ (s₁.setTop (mkF m 210 #[.val (.ref a), .val (.int i), .val (.int to), .val (.int ((B i) &&& (255 : Int32))), .val (.int (3 : Int32)), .val (.int (128 : Int32)), .val (.int (159 : Int32)), .val (.int (1 : Int32)), .val (.int (2 : Int32))] [(.ref a)]))
                  refine Gl.go ?_ (fun t k => XS.iloadN X0.here hx rfl (hb hby d1_210) rfl k)
                  show Gl _ _ _ _ (s₁.setTop (mkF m 211 #[.val (.ref a), .val (.int i), .val (.int to), .val (.int ((B i) &&& (255 : Int32))), .val (.int (3 : Int32)), .val (.int (128 : Int32)), .val (.int (159 : Int32)), .val (.int (1 : Int32)), .val (.int (2 : Int32))] [(.int i), (.ref a)]))
                  refine Gl.go ?_ (fun t k => XS.iload X0.here hx rfl (hb hby d1_211) rfl k)
                  show Gl _ _ _ _ (s₁.setTop (mkF m 213 #[.val (.ref a), .val (.int i), .val (.int to), .val (.int ((B i) &&& (255 : Int32))), .val (.int (3 : Int32)), .val (.int (128 : Int32)), .val (.int (159 : Int32)), .val (.int (1 : Int32)), .val (.int (2 : Int32))] [(.int (2 : Int32)), (.int i), (.ref a)]))
                  refine Gl.go ?_ (fun t k => XS.iadd X0.here hx rfl (hb hby d1_213) rfl k)
                  show Gl _ _ _ _ (s₁.setTop (mkF m 214 #[.val (.ref a), .val (.int i), .val (.int to), .val (.int ((B i) &&& (255 : Int32))), .val (.int (3 : Int32)), .val (.int (128 : Int32)), .val (.int (159 : Int32)), .val (.int (1 : Int32)), .val (.int (2 : Int32))] [(.int (i + (2 : Int32))), (.ref a)]))
                  refine Gl.go ?_ (BA.rdB hB X0 hx hZ e0 hi2.1 hi2.2 (g := (mkF m 214 #[.val (.ref a), .val (.int i), .val (.int to), .val (.int ((B i) &&& (255 : Int32))), .val (.int (3 : Int32)), .val (.int (128 : Int32)), .val (.int (159 : Int32)), .val (.int (1 : Int32)), .val (.int (2 : Int32))] [(.int (i + (2 : Int32))), (.ref a)])) rfl rfl (hb hby d1_214))
                  show Gl _ _ _ _ (s₁.setTop (mkF m 215 #[.val (.ref a), .val (.int i), .val (.int to), .val (.int ((B i) &&& (255 : Int32))), .val (.int (3 : Int32)), .val (.int (128 : Int32)), .val (.int (159 : Int32)), .val (.int (1 : Int32)), .val (.int (2 : Int32))] [(.int (B (i + (2 : Int32))))]))
                  refine Gl.go ?_ (fun t k => XS.sipush X0.here hx rfl (hb hby d1_215) k)
                  show Gl _ _ _ _ (s₁.setTop (mkF m 218 #[.val (.ref a), .val (.int i), .val (.int to), .val (.int ((B i) &&& (255 : Int32))), .val (.int (3 : Int32)), .val (.int (128 : Int32)), .val (.int (159 : Int32)), .val (.int (1 : Int32)), .val (.int (2 : Int32))] [(.int (192 : Int32)), (.int (B (i + (2 : Int32))))]))
                  refine Gl.go ?_ (fun t k => XS.iand X0.here hx rfl (hb hby d1_218) rfl k)
                  show Gl _ _ _ _ (s₁.setTop (mkF m 219 #[.val (.ref a), .val (.int i), .val (.int to), .val (.int ((B i) &&& (255 : Int32))), .val (.int (3 : Int32)), .val (.int (128 : Int32)), .val (.int (159 : Int32)), .val (.int (1 : Int32)), .val (.int (2 : Int32))] [(.int ((B (i + (2 : Int32))) &&& (192 : Int32)))]))
                  refine Gl.go ?_ (fun t k => XS.sipush X0.here hx rfl (hb hby d1_219) k)
                  show Gl _ _ _ _ (s₁.setTop (mkF m 222 #[.val (.ref a), .val (.int i), .val (.int to), .val (.int ((B i) &&& (255 : Int32))), .val (.int (3 : Int32)), .val (.int (128 : Int32)), .val (.int (159 : Int32)), .val (.int (1 : Int32)), .val (.int (2 : Int32))] [(.int (128 : Int32)), (.int ((B (i + (2 : Int32))) &&& (192 : Int32)))]))
                  by_cases hc60 : ((B (i + (2 : Int32))) &&& (192 : Int32)) = (128 : Int32)
                  · refine Gl.go ?_ (fun t k => XS.icmpNo X0.here hx rfl (hb hby d1_222) rfl (teq hc60).2 k)
                    show Gl _ _ _ _ (s₁.setTop (mkF m 225 #[.val (.ref a), .val (.int i), .val (.int to), .val (.int ((B i) &&& (255 : Int32))), .val (.int (3 : Int32)), .val (.int (128 : Int32)), .val (.int (159 : Int32)), .val (.int (1 : Int32)), .val (.int (2 : Int32))] []))
                    refine Gl.go ?_ (fun t k => XS.iconst X0.here hx rfl (hb hby d1_225) k)
                    show Gl _ _ _ _ (s₁.setTop (mkF m 226 #[.val (.ref a), .val (.int i), .val (.int to), .val (.int ((B i) &&& (255 : Int32))), .val (.int (3 : Int32)), .val (.int (128 : Int32)), .val (.int (159 : Int32)), .val (.int (1 : Int32)), .val (.int (2 : Int32))] [(.int (1 : Int32))]))
                    refine Gl.go ?_ (fun t k => XS.goto X0.here hx rfl (pc0 := 226) (pc' := 230) rfl (hb hby d1_226) (by decide) (by decide) k)
                    show Gl _ _ _ _ (s₁.setTop (mkF m 230 #[.val (.ref a), .val (.int i), .val (.int to), .val (.int ((B i) &&& (255 : Int32))), .val (.int (3 : Int32)), .val (.int (128 : Int32)), .val (.int (159 : Int32)), .val (.int (1 : Int32)), .val (.int (2 : Int32))] [(.int (1 : Int32))]))
                    refine Gl.go ?_ (fun t k => XS.istore X0.here hx rfl (hb hby d1_230) rfl (l' := #[.val (.ref a), .val (.int i), .val (.int to), .val (.int ((B i) &&& (255 : Int32))), .val (.int (3 : Int32)), .val (.int (128 : Int32)), .val (.int (159 : Int32)), .val (.int (1 : Int32)), .val (.int (2 : Int32))]) rfl k)
                    show Gl _ _ _ _ (s₁.setTop (mkF m 232 #[.val (.ref a), .val (.int i), .val (.int to), .val (.int ((B i) &&& (255 : Int32))), .val (.int (3 : Int32)), .val (.int (128 : Int32)), .val (.int (159 : Int32)), .val (.int (1 : Int32)), .val (.int (2 : Int32))] []))
                    refine Gl.go ?_ (fun t k => XS.iinc X0.here hx rfl (hb hby d1_232) rfl (l' := #[.val (.ref a), .val (.int i), .val (.int to), .val (.int ((B i) &&& (255 : Int32))), .val (.int (3 : Int32)), .val (.int (128 : Int32)), .val (.int (159 : Int32)), .val (.int (1 : Int32)), .val (.int (3 : Int32))]) rfl k)
                    show Gl _ _ _ _ (s₁.setTop (mkF m 235 #[.val (.ref a), .val (.int i), .val (.int to), .val (.int ((B i) &&& (255 : Int32))), .val (.int (3 : Int32)), .val (.int (128 : Int32)), .val (.int (159 : Int32)), .val (.int (1 : Int32)), .val (.int (3 : Int32))] []))
                    refine Gl.go ?_ (fun t k => XS.goto X0.here hx rfl (pc0 := 235) (pc' := 197) rfl (hb hby d1_235) (by decide) (by decide) k)
                    show Gl _ _ _ _ (s₁.setTop (mkF m 197 #[.val (.ref a), .val (.int i), .val (.int to), .val (.int ((B i) &&& (255 : Int32))), .val (.int (3 : Int32)), .val (.int (128 : Int32)), .val (.int (159 : Int32)), .val (.int (1 : Int32)), .val (.int (3 : Int32))] []))
                    refine Gl.go ?_ (fun t k => XS.iload X0.here hx rfl (hb hby d1_197) rfl k)
                    show Gl _ _ _ _ (s₁.setTop (mkF m 199 #[.val (.ref a), .val (.int i), .val (.int to), .val (.int ((B i) &&& (255 : Int32))), .val (.int (3 : Int32)), .val (.int (128 : Int32)), .val (.int (159 : Int32)), .val (.int (1 : Int32)), .val (.int (3 : Int32))] [(.int (1 : Int32))]))
                    refine Gl.go ?_ (fun t k => XS.ifNo X0.here hx rfl (hb hby d1_199) rfl ((if0 _ _).trans (feq (by decide : ¬ ((1 : Int32) = (0 : Int32)))).1) k)
                    show Gl _ _ _ _ (s₁.setTop (mkF m 202 #[.val (.ref a), .val (.int i), .val (.int to), .val (.int ((B i) &&& (255 : Int32))), .val (.int (3 : Int32)), .val (.int (128 : Int32)), .val (.int (159 : Int32)), .val (.int (1 : Int32)), .val (.int (3 : Int32))] []))
                    refine Gl.go ?_ (fun t k => XS.iload X0.here hx rfl (hb hby d1_202) rfl k)
                    show Gl _ _ _ _ (s₁.setTop (mkF m 204 #[.val (.ref a), .val (.int i), .val (.int to), .val (.int ((B i) &&& (255 : Int32))), .val (.int (3 : Int32)), .val (.int (128 : Int32)), .val (.int (159 : Int32)), .val (.int (1 : Int32)), .val (.int (3 : Int32))] [(.int (3 : Int32))]))
                    refine Gl.go ?_ (fun t k => XS.iload X0.here hx rfl (hb hby d1_204) rfl k)
                    show Gl _ _ _ _ (s₁.setTop (mkF m 206 #[.val (.ref a), .val (.int i), .val (.int to), .val (.int ((B i) &&& (255 : Int32))), .val (.int (3 : Int32)), .val (.int (128 : Int32)), .val (.int (159 : Int32)), .val (.int (1 : Int32)), .val (.int (3 : Int32))] [(.int (3 : Int32)), (.int (3 : Int32))]))
                    refine Gl.go ?_ (fun t k => XS.icmpYes X0.here hx rfl (pc0 := 206) (pc' := 238) rfl (hb hby d1_206) rfl (flt (by decide : ¬ ((3 : Int32) < (3 : Int32)))).2.1 (by decide) (by decide) k)
                    show Gl _ _ _ _ (s₁.setTop (mkF m 238 #[.val (.ref a), .val (.int i), .val (.int to), .val (.int ((B i) &&& (255 : Int32))), .val (.int (3 : Int32)), .val (.int (128 : Int32)), .val (.int (159 : Int32)), .val (.int (1 : Int32)), .val (.int (3 : Int32))] []))
                    refine Gl.go ?_ (fun t k => XS.iload X0.here hx rfl (hb hby d1_238) rfl k)
                    show Gl _ _ _ _ (s₁.setTop (mkF m 240 #[.val (.ref a), .val (.int i), .val (.int to), .val (.int ((B i) &&& (255 : Int32))), .val (.int (3 : Int32)), .val (.int (128 : Int32)), .val (.int (159 : Int32)), .val (.int (1 : Int32)), .val (.int (3 : Int32))] [(.int (1 : Int32))]))
                    refine Gl.go ?_ (fun t k => XS.ifNo X0.here hx rfl (hb hby d1_240) rfl ((if0 _ _).trans (feq (by decide : ¬ ((1 : Int32) = (0 : Int32)))).1) k)
                    show Gl _ _ _ _ (s₁.setTop (mkF m 243 #[.val (.ref a), .val (.int i), .val (.int to), .val (.int ((B i) &&& (255 : Int32))), .val (.int (3 : Int32)), .val (.int (128 : Int32)), .val (.int (159 : Int32)), .val (.int (1 : Int32)), .val (.int (3 : Int32))] []))
                    refine Gl.go ?_ (fun t k => XS.iloadN X0.here hx rfl (hb hby d1_243) rfl k)
                    show Gl _ _ _ _ (s₁.setTop (mkF m 244 #[.val (.ref a), .val (.int i), .val (.int to), .val (.int ((B i) &&& (255 : Int32))), .val (.int (3 : Int32)), .val (.int (128 : Int32)), .val (.int (159 : Int32)), .val (.int (1 : Int32)), .val (.int (3 : Int32))] [(.int i)]))
                    refine Gl.go ?_ (fun t k => XS.iload X0.here hx rfl (hb hby d1_244) rfl k)
                    show Gl _ _ _ _ (s₁.setTop (mkF m 246 #[.val (.ref a), .val (.int i), .val (.int to), .val (.int ((B i) &&& (255 : Int32))), .val (.int (3 : Int32)), .val (.int (128 : Int32)), .val (.int (159 : Int32)), .val (.int (1 : Int32)), .val (.int (3 : Int32))] [(.int (3 : Int32)), (.int i)]))
                    refine Gl.go ?_ (fun t k => XS.iadd X0.here hx rfl (hb hby d1_246) rfl k)
                    show Gl _ _ _ _ (s₁.setTop (mkF m 247 #[.val (.ref a), .val (.int i), .val (.int to), .val (.int ((B i) &&& (255 : Int32))), .val (.int (3 : Int32)), .val (.int (128 : Int32)), .val (.int (159 : Int32)), .val (.int (1 : Int32)), .val (.int (3 : Int32))] [(.int (i + (3 : Int32)))]))
                    refine Gl.go ?_ (fun t k => XS.goto X0.here hx rfl (pc0 := 247) (pc' := 251) rfl (hb hby d1_247) (by decide) (by decide) k)
                    show Gl _ _ _ _ (s₁.setTop (mkF m 251 #[.val (.ref a), .val (.int i), .val (.int to), .val (.int ((B i) &&& (255 : Int32))), .val (.int (3 : Int32)), .val (.int (128 : Int32)), .val (.int (159 : Int32)), .val (.int (1 : Int32)), .val (.int (3 : Int32))] [(.int (i + (3 : Int32)))]))
                    obtain ⟨fs, hr, hrun, hended, hW, hsame⟩ := X0.leave (v := some (.int (i + (3 : Int32)))) (fun h => by rw [Bd.returns] at h; cases h) (BodyLoose.notSynchronized Bd)
                    exact Gl.mk ⟨_, _, retI X0 hx Bd.returns (hb hby d1_251) hr, hrun, hended, _, _, rfl, ⟨congrArg (fun z => some (Value.int z)) ((if_neg hc30).trans ((if_pos hc31).trans ((if_neg hc32).trans ((if_neg hc51).trans ((if_pos hc56).trans ((if_neg hc57).trans ((if_neg hc58).trans ((if_neg hc59).trans ((if_pos hc60).trans (rfl)))))))))).symm, rfl, e0⟩, ⟨_, rfl⟩, hW, hsame.mono (by decide) (by decide)⟩
                  · refine Gl.go ?_ (fun t k => XS.icmpYes X0.here hx rfl (pc0 := 222) (pc' := 229) rfl (hb hby d1_222) rfl (feq hc60).2 (by decide) (by decide) k)
                    show Gl _ _ _ _ (s₁.setTop (mkF m 229 #[.val (.ref a), .val (.int i), .val (.int to), .val (.int ((B i) &&& (255 : Int32))), .val (.int (3 : Int32)), .val (.int (128 : Int32)), .val (.int (159 : Int32)), .val (.int (1 : Int32)), .val (.int (2 : Int32))] []))
                    refine Gl.go ?_ (fun t k => XS.iconst X0.here hx rfl (hb hby d1_229) k)
                    show Gl _ _ _ _ (s₁.setTop (mkF m 230 #[.val (.ref a), .val (.int i), .val (.int to), .val (.int ((B i) &&& (255 : Int32))), .val (.int (3 : Int32)), .val (.int (128 : Int32)), .val (.int (159 : Int32)), .val (.int (1 : Int32)), .val (.int (2 : Int32))] [(.int (0 : Int32))]))
                    refine Gl.go ?_ (fun t k => XS.istore X0.here hx rfl (hb hby d1_230) rfl (l' := #[.val (.ref a), .val (.int i), .val (.int to), .val (.int ((B i) &&& (255 : Int32))), .val (.int (3 : Int32)), .val (.int (128 : Int32)), .val (.int (159 : Int32)), .val (.int (0 : Int32)), .val (.int (2 : Int32))]) rfl k)
                    show Gl _ _ _ _ (s₁.setTop (mkF m 232 #[.val (.ref a), .val (.int i), .val (.int to), .val (.int ((B i) &&& (255 : Int32))), .val (.int (3 : Int32)), .val (.int (128 : Int32)), .val (.int (159 : Int32)), .val (.int (0 : Int32)), .val (.int (2 : Int32))] []))
                    refine Gl.go ?_ (fun t k => XS.iinc X0.here hx rfl (hb hby d1_232) rfl (l' := #[.val (.ref a), .val (.int i), .val (.int to), .val (.int ((B i) &&& (255 : Int32))), .val (.int (3 : Int32)), .val (.int (128 : Int32)), .val (.int (159 : Int32)), .val (.int (0 : Int32)), .val (.int (3 : Int32))]) rfl k)
                    show Gl _ _ _ _ (s₁.setTop (mkF m 235 #[.val (.ref a), .val (.int i), .val (.int to), .val (.int ((B i) &&& (255 : Int32))), .val (.int (3 : Int32)), .val (.int (128 : Int32)), .val (.int (159 : Int32)), .val (.int (0 : Int32)), .val (.int (3 : Int32))] []))
                    refine Gl.go ?_ (fun t k => XS.goto X0.here hx rfl (pc0 := 235) (pc' := 197) rfl (hb hby d1_235) (by decide) (by decide) k)
                    show Gl _ _ _ _ (s₁.setTop (mkF m 197 #[.val (.ref a), .val (.int i), .val (.int to), .val (.int ((B i) &&& (255 : Int32))), .val (.int (3 : Int32)), .val (.int (128 : Int32)), .val (.int (159 : Int32)), .val (.int (0 : Int32)), .val (.int (3 : Int32))] []))
                    refine Gl.go ?_ (fun t k => XS.iload X0.here hx rfl (hb hby d1_197) rfl k)
                    show Gl _ _ _ _ (s₁.setTop (mkF m 199 #[.val (.ref a), .val (.int i), .val (.int to), .val (.int ((B i) &&& (255 : Int32))), .val (.int (3 : Int32)), .val (.int (128 : Int32)), .val (.int (159 : Int32)), .val (.int (0 : Int32)), .val (.int (3 : Int32))] [(.int (0 : Int32))]))
                    refine Gl.go ?_ (fun t k => XS.ifYes X0.here hx rfl (pc0 := 199) (pc' := 238) rfl (hb hby d1_199) rfl ((if0 _ _).trans (teq (by decide : (0 : Int32) = (0 : Int32))).1) (by decide) (by decide) k)
                    show Gl _ _ _ _ (s₁.setTop (mkF m 238 #[.val (.ref a), .val (.int i), .val (.int to), .val (.int ((B i) &&& (255 : Int32))), .val (.int (3 : Int32)), .val (.int (128 : Int32)), .val (.int (159 : Int32)), .val (.int (0 : Int32)), .val (.int (3 : Int32))] []))
                    refine Gl.go ?_ (fun t k => XS.iload X0.here hx rfl (hb hby d1_238) rfl k)
                    show Gl _ _ _ _ (s₁.setTop (mkF m 240 #[.val (.ref a), .val (.int i), .val (.int to), .val (.int ((B i) &&& (255 : Int32))), .val (.int (3 : Int32)), .val (.int (128 : Int32)), .val (.int (159 : Int32)), .val (.int (0 : Int32)), .val (.int (3 : Int32))] [(.int (0 : Int32))]))
                    refine Gl.go ?_ (fun t k => XS.ifYes X0.here hx rfl (pc0 := 240) (pc' := 250) rfl (hb hby d1_240) rfl ((if0 _ _).trans (teq (by decide : (0 : Int32) = (0 : Int32))).1) (by decide) (by decide) k)
                    show Gl _ _ _ _ (s₁.setTop (mkF m 250 #[.val (.ref a), .val (.int i), .val (.int to), .val (.int ((B i) &&& (255 : Int32))), .val (.int (3 : Int32)), .val (.int (128 : Int32)), .val (.int (159 : Int32)), .val (.int (0 : Int32)), .val (.int (3 : Int32))] []))
                    refine Gl.go ?_ (fun t k => XS.iconst X0.here hx rfl (hb hby d1_250) k)
                    show Gl _ _ _ _ (s₁.setTop (mkF m 251 #[.val (.ref a), .val (.int i), .val (.int to), .val (.int ((B i) &&& (255 : Int32))), .val (.int (3 : Int32)), .val (.int (128 : Int32)), .val (.int (159 : Int32)), .val (.int (0 : Int32)), .val (.int (3 : Int32))] [(.int (-1 : Int32))]))
                    obtain ⟨fs, hr, hrun, hended, hW, hsame⟩ := X0.leave (v := some (.int (-1 : Int32))) (fun h => by rw [Bd.returns] at h; cases h) (BodyLoose.notSynchronized Bd)
                    exact Gl.mk ⟨_, _, retI X0 hx Bd.returns (hb hby d1_251) hr, hrun, hended, _, _, rfl, ⟨congrArg (fun z => some (Value.int z)) ((if_neg hc30).trans ((if_pos hc31).trans ((if_neg hc32).trans ((if_neg hc51).trans ((if_pos hc56).trans ((if_neg hc57).trans ((if_neg hc58).trans ((if_neg hc59).trans ((if_neg hc60).trans (rfl)))))))))).symm, rfl, e0⟩, ⟨_, rfl⟩, hW, hsame.mono (by decide) (by decide)⟩
          · refine Gl.go ?_ (fun t k => XS.icmpYes X0.here hx rfl (pc0 := 79) (pc' := 88) rfl (hb hby d1_79) rfl (feq hc56).2 (by decide) (by decide) k)
            show Gl _ _ _ _ (s₁.setTop (mkF m 88 #[.val (.ref a), .val (.int i), .val (.int to), .val (.int ((B i) &&& (255 : Int32))), .val (.int (3 : Int32)), .val (.int (128 : Int32)), .val (.int (191 : Int32)), .unset, .unset] []))
            refine Gl.go ?_ (fun t k => XS.iload X0.here hx rfl (hb hby d1_88) rfl k)
            show Gl _ _ _ _ (s₁.setTop (mkF m 90 #[.val (.ref a), .val (.int i), .val (.int to), .val (.int ((B i) &&& (255 : Int32))), .val (.int (3 : Int32)), .val (.int (128 : Int32)), .val (.int (191 : Int32)), .unset, .unset] [(.int (191 : Int32))]))
            refine Gl.go ?_ (fun t k => XS.istore X0.here hx rfl (hb hby d1_90) rfl (l' := #[.val (.ref a), .val (.int i), .val (.int to), .val (.int ((B i) &&& (255 : Int32))), .val (.int (3 : Int32)), .val (.int (128 : Int32)), .val (.int (191 : Int32)), .unset, .unset]) rfl k)
            show Gl _ _ _ _ (s₁.setTop (mkF m 92 #[.val (.ref a), .val (.int i), .val (.int to), .val (.int ((B i) &&& (255 : Int32))), .val (.int (3 : Int32)), .val (.int (128 : Int32)), .val (.int (191 : Int32)), .unset, .unset] []))
            refine Gl.go ?_ (fun t k => XS.goto X0.here hx rfl (pc0 := 92) (pc' := 146) rfl (hb hby d1_92) (by decide) (by decide) k)
            show Gl _ _ _ _ (s₁.setTop (mkF m 146 #[.val (.ref a), .val (.int i), .val (.int to), .val (.int ((B i) &&& (255 : Int32))), .val (.int (3 : Int32)), .val (.int (128 : Int32)), .val (.int (191 : Int32)), .unset, .unset] []))
            refine Gl.go ?_ (fun t k => XS.iload X0.here hx rfl (hb hby d1_146) rfl k)
            show Gl _ _ _ _ (s₁.setTop (mkF m 148 #[.val (.ref a), .val (.int i), .val (.int to), .val (.int ((B i) &&& (255 : Int32))), .val (.int (3 : Int32)), .val (.int (128 : Int32)), .val (.int (191 : Int32)), .unset, .unset] [(.int (3 : Int32))]))
            refine Gl.go ?_ (fun t k => XS.ifNo X0.here hx rfl (hb hby d1_148) rfl ((if0 _ _).trans (tlt (by decide : (0 : Int32) < (3 : Int32))).2.2.2) k)
            show Gl _ _ _ _ (s₁.setTop (mkF m 151 #[.val (.ref a), .val (.int i), .val (.int to), .val (.int ((B i) &&& (255 : Int32))), .val (.int (3 : Int32)), .val (.int (128 : Int32)), .val (.int (191 : Int32)), .unset, .unset] []))
            refine Gl.go ?_ (fun t k => XS.iloadN X0.here hx rfl (hb hby d1_151) rfl k)
            show Gl _ _ _ _ (s₁.setTop (mkF m 152 #[.val (.ref a), .val (.int i), .val (.int to), .val (.int ((B i) &&& (255 : Int32))), .val (.int (3 : Int32)), .val (.int (128 : Int32)), .val (.int (191 : Int32)), .unset, .unset] [(.int to)]))
            refine Gl.go ?_ (fun t k => XS.iloadN X0.here hx rfl (hb hby d1_152) rfl k)
            show Gl _ _ _ _ (s₁.setTop (mkF m 153 #[.val (.ref a), .val (.int i), .val (.int to), .val (.int ((B i) &&& (255 : Int32))), .val (.int (3 : Int32)), .val (.int (128 : Int32)), .val (.int (191 : Int32)), .unset, .unset] [(.int i), (.int to)]))
            refine Gl.go ?_ (fun t k => XS.isub X0.here hx rfl (hb hby d1_153) rfl k)
            show Gl _ _ _ _ (s₁.setTop (mkF m 154 #[.val (.ref a), .val (.int i), .val (.int to), .val (.int ((B i) &&& (255 : Int32))), .val (.int (3 : Int32)), .val (.int (128 : Int32)), .val (.int (191 : Int32)), .unset, .unset] [(.int (to - i))]))
            refine Gl.go ?_ (fun t k => XS.iload X0.here hx rfl (hb hby d1_154) rfl k)
            show Gl _ _ _ _ (s₁.setTop (mkF m 156 #[.val (.ref a), .val (.int i), .val (.int to), .val (.int ((B i) &&& (255 : Int32))), .val (.int (3 : Int32)), .val (.int (128 : Int32)), .val (.int (191 : Int32)), .unset, .unset] [(.int (3 : Int32)), (.int (to - i))]))
            by_cases hc61 : (to - i) < (3 : Int32)
            · refine Gl.go ?_ (fun t k => XS.icmpYes X0.here hx rfl (pc0 := 156) (pc' := 191) rfl (hb hby d1_156) rfl (tlt hc61).1 (by decide) (by decide) k)
              show Gl _ _ _ _ (s₁.setTop (mkF m 191 #[.val (.ref a), .val (.int i), .val (.int to), .val (.int ((B i) &&& (255 : Int32))), .val (.int (3 : Int32)), .val (.int (128 : Int32)), .val (.int (191 : Int32)), .unset, .unset] []))
              refine Gl.go ?_ (fun t k => XS.iconst X0.here hx rfl (hb hby d1_191) k)
              show Gl _ _ _ _ (s₁.setTop (mkF m 192 #[.val (.ref a), .val (.int i), .val (.int to), .val (.int ((B i) &&& (255 : Int32))), .val (.int (3 : Int32)), .val (.int (128 : Int32)), .val (.int (191 : Int32)), .unset, .unset] [(.int (0 : Int32))]))
              refine Gl.go ?_ (fun t k => XS.istore X0.here hx rfl (hb hby d1_192) rfl (l' := #[.val (.ref a), .val (.int i), .val (.int to), .val (.int ((B i) &&& (255 : Int32))), .val (.int (3 : Int32)), .val (.int (128 : Int32)), .val (.int (191 : Int32)), .val (.int (0 : Int32)), .unset]) rfl k)
              show Gl _ _ _ _ (s₁.setTop (mkF m 194 #[.val (.ref a), .val (.int i), .val (.int to), .val (.int ((B i) &&& (255 : Int32))), .val (.int (3 : Int32)), .val (.int (128 : Int32)), .val (.int (191 : Int32)), .val (.int (0 : Int32)), .unset] []))
              refine Gl.go ?_ (fun t k => XS.iconst X0.here hx rfl (hb hby d1_194) k)
              show Gl _ _ _ _ (s₁.setTop (mkF m 195 #[.val (.ref a), .val (.int i), .val (.int to), .val (.int ((B i) &&& (255 : Int32))), .val (.int (3 : Int32)), .val (.int (128 : Int32)), .val (.int (191 : Int32)), .val (.int (0 : Int32)), .unset] [(.int (2 : Int32))]))
              refine Gl.go ?_ (fun t k => XS.istore X0.here hx rfl (hb hby d1_195) rfl (l' := #[.val (.ref a), .val (.int i), .val (.int to), .val (.int ((B i) &&& (255 : Int32))), .val (.int (3 : Int32)), .val (.int (128 : Int32)), .val (.int (191 : Int32)), .val (.int (0 : Int32)), .val (.int (2 : Int32))]) rfl k)
              show Gl _ _ _ _ (s₁.setTop (mkF m 197 #[.val (.ref a), .val (.int i), .val (.int to), .val (.int ((B i) &&& (255 : Int32))), .val (.int (3 : Int32)), .val (.int (128 : Int32)), .val (.int (191 : Int32)), .val (.int (0 : Int32)), .val (.int (2 : Int32))] []))
              refine Gl.go ?_ (fun t k => XS.iload X0.here hx rfl (hb hby d1_197) rfl k)
              show Gl _ _ _ _ (s₁.setTop (mkF m 199 #[.val (.ref a), .val (.int i), .val (.int to), .val (.int ((B i) &&& (255 : Int32))), .val (.int (3 : Int32)), .val (.int (128 : Int32)), .val (.int (191 : Int32)), .val (.int (0 : Int32)), .val (.int (2 : Int32))] [(.int (0 : Int32))]))
              refine Gl.go ?_ (fun t k => XS.ifYes X0.here hx rfl (pc0 := 199) (pc' := 238) rfl (hb hby d1_199) rfl ((if0 _ _).trans (teq (by decide : (0 : Int32) = (0 : Int32))).1) (by decide) (by decide) k)
              show Gl _ _ _ _ (s₁.setTop (mkF m 238 #[.val (.ref a), .val (.int i), .val (.int to), .val (.int ((B i) &&& (255 : Int32))), .val (.int (3 : Int32)), .val (.int (128 : Int32)), .val (.int (191 : Int32)), .val (.int (0 : Int32)), .val (.int (2 : Int32))] []))
              refine Gl.go ?_ (fun t k => XS.iload X0.here hx rfl (hb hby d1_238) rfl k)
              show Gl _ _ _ _ (s₁.setTop (mkF m 240 #[.val (.ref a), .val (.int i), .val (.int to), .val (.int ((B i) &&& (255 : Int32))), .val (.int (3 : Int32)), .val (.int (128 : Int32)), .val (.int (191 : Int32)), .val (.int (0 : Int32)), .val (.int (2 : Int32))] [(.int (0 : Int32))]))
              refine Gl.go ?_ (fun t k => XS.ifYes X0.here hx rfl (pc0 := 240) (pc' := 250) rfl (hb hby d1_240) rfl ((if0 _ _).trans (teq (by decide : (0 : Int32) = (0 : Int32))).1) (by decide) (by decide) k)
              show Gl _ _ _ _ (s₁.setTop (mkF m 250 #[.val (.ref a), .val (.int i), .val (.int to), .val (.int ((B i) &&& (255 : Int32))), .val (.int (3 : Int32)), .val (.int (128 : Int32)), .val (.int (191 : Int32)), .val (.int (0 : Int32)), .val (.int (2 : Int32))] []))
              refine Gl.go ?_ (fun t k => XS.iconst X0.here hx rfl (hb hby d1_250) k)
              show Gl _ _ _ _ (s₁.setTop (mkF m 251 #[.val (.ref a), .val (.int i), .val (.int to), .val (.int ((B i) &&& (255 : Int32))), .val (.int (3 : Int32)), .val (.int (128 : Int32)), .val (.int (191 : Int32)), .val (.int (0 : Int32)), .val (.int (2 : Int32))] [(.int (-1 : Int32))]))
              obtain ⟨fs, hr, hrun, hended, hW, hsame⟩ := X0.leave (v := some (.int (-1 : Int32))) (fun h => by rw [Bd.returns] at h; cases h) (BodyLoose.notSynchronized Bd)
              exact Gl.mk ⟨_, _, retI X0 hx Bd.returns (hb hby d1_251) hr, hrun, hended, _, _, rfl, ⟨congrArg (fun z => some (Value.int z)) ((if_neg hc30).trans ((if_pos hc31).trans ((if_neg hc32).trans ((if_neg hc51).trans ((if_neg hc56).trans ((if_pos hc61).trans (rfl))))))).symm, rfl, e0⟩, ⟨_, rfl⟩, hW, hsame.mono (by decide) (by decide)⟩
            · refine Gl.go ?_ (fun t k => XS.icmpNo X0.here hx rfl (hb hby d1_156) rfl (flt hc61).1 k)
              show Gl _ _ _ _ (s₁.setTop (mkF m 159 #[.val (.ref a), .val (.int i), .val (.int to), .val (.int ((B i) &&& (255 : Int32))), .val (.int (3 : Int32)), .val (.int (128 : Int32)), .val (.int (191 : Int32)), .unset, .unset] []))
              refine Gl.go ?_ (fun t k => XS.aloadN X0.here hx rfl (hb hby d1_159) rfl rfl k)
              show Gl _ _ _ _ (s₁.setTop (mkF m 160 #[.val (.ref a), .val (.int i), .val (.int to), .val (.int ((B i) &&& (255 : Int32))), .val (.int (3 : Int32)), .val (.int (128 : Int32)), .val (.int (191 : Int32)), .unset, .unset] [(.ref a)]))
              refine Gl.go ?_ (fun t k => XS.iloadN X0.here hx rfl (hb hby d1_160) rfl k)
              show Gl _ _ _ _ (s₁.setTop (mkF m 161 #[.val (.ref a), .val (.int i), .val (.int to), .val (.int ((B i) &&& (255 : Int32))), .val (.int (3 : Int32)), .val (.int (128 : Int32)), .val (.int (191 : Int32)), .unset, .unset] [(.int i), (.ref a)]))
              refine Gl.go ?_ (fun t k => XS.iconst X0.here hx rfl (hb hby d1_161) k)
              show Gl _ _ _ _ (s₁.setTop (mkF m 162 #[.val (.ref a), .val (.int i), .val (.int to), .val (.int ((B i) &&& (255 : Int32))), .val (.int (3 : Int32)), .val (.int (128 : Int32)), .val (.int (191 : Int32)), .unset, .unset] [(.int (1 : Int32)), (.int i), (.ref a)]))
              refine Gl.go ?_ (fun t k => XS.iadd X0.here hx rfl (hb hby d1_162) rfl k)
              show Gl _ _ _ _ (s₁.setTop (mkF m 163 #[.val (.ref a), .val (.int i), .val (.int to), .val (.int ((B i) &&& (255 : Int32))), .val (.int (3 : Int32)), .val (.int (128 : Int32)), .val (.int (191 : Int32)), .unset, .unset] [(.int (i + (1 : Int32))), (.ref a)]))
              refine Gl.go ?_ (BA.rdB hB X0 hx hZ e0 hi1.1 hi1.2 (g := (mkF m 163 #[.val (.ref a), .val (.int i), .val (.int to), .val (.int ((B i) &&& (255 : Int32))), .val (.int (3 : Int32)), .val (.int (128 : Int32)), .val (.int (191 : Int32)), .unset, .unset] [(.int (i + (1 : Int32))), (.ref a)])) rfl rfl (hb hby d1_163))
              show Gl _ _ _ _ (s₁.setTop (mkF m 164 #[.val (.ref a), .val (.int i), .val (.int to), .val (.int ((B i) &&& (255 : Int32))), .val (.int (3 : Int32)), .val (.int (128 : Int32)), .val (.int (191 : Int32)), .unset, .unset] [(.int (B (i + (1 : Int32))))]))
              refine Gl.go ?_ (fun t k => XS.sipush X0.here hx rfl (hb hby d1_164) k)
              show Gl _ _ _ _ (s₁.setTop (mkF m 167 #[.val (.ref a), .val (.int i), .val (.int to), .val (.int ((B i) &&& (255 : Int32))), .val (.int (3 : Int32)), .val (.int (128 : Int32)), .val (.int (191 : Int32)), .unset, .unset] [(.int (255 : Int32)), (.int (B (i + (1 : Int32))))]))
              refine Gl.go ?_ (fun t k => XS.iand X0.here hx rfl (hb hby d1_167) rfl k)
              show Gl _ _ _ _ (s₁.setTop (mkF m 168 #[.val (.ref a), .val (.int i), .val (.int to), .val (.int ((B i) &&& (255 : Int32))), .val (.int (3 : Int32)), .val (.int (128 : Int32)), .val (.int (191 : Int32)), .unset, .unset] [(.int ((B (i + (1 : Int32))) &&& (255 : Int32)))]))
              refine Gl.go ?_ (fun t k => XS.iload X0.here hx rfl (hb hby d1_168) rfl k)
              show Gl _ _ _ _ (s₁.setTop (mkF m 170 #[.val (.ref a), .val (.int i), .val (.int to), .val (.int ((B i) &&& (255 : Int32))), .val (.int (3 : Int32)), .val (.int (128 : Int32)), .val (.int (191 : Int32)), .unset, .unset] [(.int (128 : Int32)), (.int ((B (i + (1 : Int32))) &&& (255 : Int32)))]))
              by_cases hc62 : ((B (i + (1 : Int32))) &&& (255 : Int32)) < (128 : Int32)
              · refine Gl.go ?_ (fun t k => XS.icmpYes X0.here hx rfl (pc0 := 170) (pc' := 191) rfl (hb hby d1_170) rfl (tlt hc62).1 (by decide) (by decide) k)
                show Gl _ _ _ _ (s₁.setTop (mkF m 191 #[.val (.ref a), .val (.int i), .val (.int to), .val (.int ((B i) &&& (255 : Int32))), .val (.int (3 : Int32)), .val (.int (128 : Int32)), .val (.int (191 : Int32)), .unset, .unset] []))
                refine Gl.go ?_ (fun t k => XS.iconst X0.here hx rfl (hb hby d1_191) k)
                show Gl _ _ _ _ (s₁.setTop (mkF m 192 #[.val (.ref a), .val (.int i), .val (.int to), .val (.int ((B i) &&& (255 : Int32))), .val (.int (3 : Int32)), .val (.int (128 : Int32)), .val (.int (191 : Int32)), .unset, .unset] [(.int (0 : Int32))]))
                refine Gl.go ?_ (fun t k => XS.istore X0.here hx rfl (hb hby d1_192) rfl (l' := #[.val (.ref a), .val (.int i), .val (.int to), .val (.int ((B i) &&& (255 : Int32))), .val (.int (3 : Int32)), .val (.int (128 : Int32)), .val (.int (191 : Int32)), .val (.int (0 : Int32)), .unset]) rfl k)
                show Gl _ _ _ _ (s₁.setTop (mkF m 194 #[.val (.ref a), .val (.int i), .val (.int to), .val (.int ((B i) &&& (255 : Int32))), .val (.int (3 : Int32)), .val (.int (128 : Int32)), .val (.int (191 : Int32)), .val (.int (0 : Int32)), .unset] []))
                refine Gl.go ?_ (fun t k => XS.iconst X0.here hx rfl (hb hby d1_194) k)
                show Gl _ _ _ _ (s₁.setTop (mkF m 195 #[.val (.ref a), .val (.int i), .val (.int to), .val (.int ((B i) &&& (255 : Int32))), .val (.int (3 : Int32)), .val (.int (128 : Int32)), .val (.int (191 : Int32)), .val (.int (0 : Int32)), .unset] [(.int (2 : Int32))]))
                refine Gl.go ?_ (fun t k => XS.istore X0.here hx rfl (hb hby d1_195) rfl (l' := #[.val (.ref a), .val (.int i), .val (.int to), .val (.int ((B i) &&& (255 : Int32))), .val (.int (3 : Int32)), .val (.int (128 : Int32)), .val (.int (191 : Int32)), .val (.int (0 : Int32)), .val (.int (2 : Int32))]) rfl k)
                show Gl _ _ _ _ (s₁.setTop (mkF m 197 #[.val (.ref a), .val (.int i), .val (.int to), .val (.int ((B i) &&& (255 : Int32))), .val (.int (3 : Int32)), .val (.int (128 : Int32)), .val (.int (191 : Int32)), .val (.int (0 : Int32)), .val (.int (2 : Int32))] []))
                refine Gl.go ?_ (fun t k => XS.iload X0.here hx rfl (hb hby d1_197) rfl k)
                show Gl _ _ _ _ (s₁.setTop (mkF m 199 #[.val (.ref a), .val (.int i), .val (.int to), .val (.int ((B i) &&& (255 : Int32))), .val (.int (3 : Int32)), .val (.int (128 : Int32)), .val (.int (191 : Int32)), .val (.int (0 : Int32)), .val (.int (2 : Int32))] [(.int (0 : Int32))]))
                refine Gl.go ?_ (fun t k => XS.ifYes X0.here hx rfl (pc0 := 199) (pc' := 238) rfl (hb hby d1_199) rfl ((if0 _ _).trans (teq (by decide : (0 : Int32) = (0 : Int32))).1) (by decide) (by decide) k)
                show Gl _ _ _ _ (s₁.setTop (mkF m 238 #[.val (.ref a), .val (.int i), .val (.int to), .val (.int ((B i) &&& (255 : Int32))), .val (.int (3 : Int32)), .val (.int (128 : Int32)), .val (.int (191 : Int32)), .val (.int (0 : Int32)), .val (.int (2 : Int32))] []))
                refine Gl.go ?_ (fun t k => XS.iload X0.here hx rfl (hb hby d1_238) rfl k)
                show Gl _ _ _ _ (s₁.setTop (mkF m 240 #[.val (.ref a), .val (.int i), .val (.int to), .val (.int ((B i) &&& (255 : Int32))), .val (.int (3 : Int32)), .val (.int (128 : Int32)), .val (.int (191 : Int32)), .val (.int (0 : Int32)), .val (.int (2 : Int32))] [(.int (0 : Int32))]))
                refine Gl.go ?_ (fun t k => XS.ifYes X0.here hx rfl (pc0 := 240) (pc' := 250) rfl (hb hby d1_240) rfl ((if0 _ _).trans (teq (by decide : (0 : Int32) = (0 : Int32))).1) (by decide) (by decide) k)
                show Gl _ _ _ _ (s₁.setTop (mkF m 250 #[.val (.ref a), .val (.int i), .val (.int to), .val (.int ((B i) &&& (255 : Int32))), .val (.int (3 : Int32)), .val (.int (128 : Int32)), .val (.int (191 : Int32)), .val (.int (0 : Int32)), .val (.int (2 : Int32))] []))
                refine Gl.go ?_ (fun t k => XS.iconst X0.here hx rfl (hb hby d1_250) k)
                show Gl _ _ _ _ (s₁.setTop (mkF m 251 #[.val (.ref a), .val (.int i), .val (.int to), .val (.int ((B i) &&& (255 : Int32))), .val (.int (3 : Int32)), .val (.int (128 : Int32)), .val (.int (191 : Int32)), .val (.int (0 : Int32)), .val (.int (2 : Int32))] [(.int (-1 : Int32))]))
                obtain ⟨fs, hr, hrun, hended, hW, hsame⟩ := X0.leave (v := some (.int (-1 : Int32))) (fun h => by rw [Bd.returns] at h; cases h) (BodyLoose.notSynchronized Bd)
                exact Gl.mk ⟨_, _, retI X0 hx Bd.returns (hb hby d1_251) hr, hrun, hended, _, _, rfl, ⟨congrArg (fun z => some (Value.int z)) ((if_neg hc30).trans ((if_pos hc31).trans ((if_neg hc32).trans ((if_neg hc51).trans ((if_neg hc56).trans ((if_neg hc61).trans ((if_pos hc62).trans (rfl)))))))).symm, rfl, e0⟩, ⟨_, rfl⟩, hW, hsame.mono (by decide) (by decide)⟩
              · refine Gl.go ?_ (fun t k => XS.icmpNo X0.here hx rfl (hb hby d1_170) rfl (flt hc62).1 k)
                show Gl _ _ _ _ (s₁.setTop (mkF m 173 #[.val (.ref a), .val (.int i), .val (.int to), .val (.int ((B i) &&& (255 : Int32))), .val (.int (3 : Int32)), .val (.int (128 : Int32)), .val (.int (191 : Int32)), .unset, .unset] []))
                refine Gl.go ?_ (fun t k => XS.aloadN X0.here hx rfl (hb hby d1_173) rfl rfl k)
                show Gl _ _ _ _ (s₁.setTop (mkF m 174 #[.val (.ref a), .val (.int i), .val (.int to), .val (.int ((B i) &&& (255 : Int32))), .val (.int (3 : Int32)), .val (.int (128 : Int32)), .val (.int (191 : Int32)), .unset, .unset] [(.ref a)]))
                refine Gl.go ?_ (fun t k => XS.iloadN X0.here hx rfl (hb hby d1_174) rfl k)
                show Gl _ _ _ _ (s₁.setTop (mkF m 175 #[.val (.ref a), .val (.int i), .val (.int to), .val (.int ((B i) &&& (255 : Int32))), .val (.int (3 : Int32)), .val (.int (128 : Int32)), .val (.int (191 : Int32)), .unset, .unset] [(.int i), (.ref a)]))
                refine Gl.go ?_ (fun t k => XS.iconst X0.here hx rfl (hb hby d1_175) k)
                show Gl _ _ _ _ (s₁.setTop (mkF m 176 #[.val (.ref a), .val (.int i), .val (.int to), .val (.int ((B i) &&& (255 : Int32))), .val (.int (3 : Int32)), .val (.int (128 : Int32)), .val (.int (191 : Int32)), .unset, .unset] [(.int (1 : Int32)), (.int i), (.ref a)]))
                refine Gl.go ?_ (fun t k => XS.iadd X0.here hx rfl (hb hby d1_176) rfl k)
                show Gl _ _ _ _ (s₁.setTop (mkF m 177 #[.val (.ref a), .val (.int i), .val (.int to), .val (.int ((B i) &&& (255 : Int32))), .val (.int (3 : Int32)), .val (.int (128 : Int32)), .val (.int (191 : Int32)), .unset, .unset] [(.int (i + (1 : Int32))), (.ref a)]))
                refine Gl.go ?_ (BA.rdB hB X0 hx hZ e0 hi1.1 hi1.2 (g := (mkF m 177 #[.val (.ref a), .val (.int i), .val (.int to), .val (.int ((B i) &&& (255 : Int32))), .val (.int (3 : Int32)), .val (.int (128 : Int32)), .val (.int (191 : Int32)), .unset, .unset] [(.int (i + (1 : Int32))), (.ref a)])) rfl rfl (hb hby d1_177))
                show Gl _ _ _ _ (s₁.setTop (mkF m 178 #[.val (.ref a), .val (.int i), .val (.int to), .val (.int ((B i) &&& (255 : Int32))), .val (.int (3 : Int32)), .val (.int (128 : Int32)), .val (.int (191 : Int32)), .unset, .unset] [(.int (B (i + (1 : Int32))))]))
                refine Gl.go ?_ (fun t k => XS.sipush X0.here hx rfl (hb hby d1_178) k)
                show Gl _ _ _ _ (s₁.setTop (mkF m 181 #[.val (.ref a), .val (.int i), .val (.int to), .val (.int ((B i) &&& (255 : Int32))), .val (.int (3 : Int32)), .val (.int (128 : Int32)), .val (.int (191 : Int32)), .unset, .unset] [(.int (255 : Int32)), (.int (B (i + (1 : Int32))))]))
                refine Gl.go ?_ (fun t k => XS.iand X0.here hx rfl (hb hby d1_181) rfl k)
                show Gl _ _ _ _ (s₁.setTop (mkF m 182 #[.val (.ref a), .val (.int i), .val (.int to), .val (.int ((B i) &&& (255 : Int32))), .val (.int (3 : Int32)), .val (.int (128 : Int32)), .val (.int (191 : Int32)), .unset, .unset] [(.int ((B (i + (1 : Int32))) &&& (255 : Int32)))]))
                refine Gl.go ?_ (fun t k => XS.iload X0.here hx rfl (hb hby d1_182) rfl k)
                show Gl _ _ _ _ (s₁.setTop (mkF m 184 #[.val (.ref a), .val (.int i), .val (.int to), .val (.int ((B i) &&& (255 : Int32))), .val (.int (3 : Int32)), .val (.int (128 : Int32)), .val (.int (191 : Int32)), .unset, .unset] [(.int (191 : Int32)), (.int ((B (i + (1 : Int32))) &&& (255 : Int32)))]))
                by_cases hc63 : (191 : Int32) < ((B (i + (1 : Int32))) &&& (255 : Int32))
                · refine Gl.go ?_ (fun t k => XS.icmpYes X0.here hx rfl (pc0 := 184) (pc' := 191) rfl (hb hby d1_184) rfl (tlt hc63).2.2.1 (by decide) (by decide) k)
                  show Gl _ _ _ _ (s₁.setTop (mkF m 191 #[.val (.ref a), .val (.int i), .val (.int to), .val (.int ((B i) &&& (255 : Int32))), .val (.int (3 : Int32)), .val (.int (128 : Int32)), .val (.int (191 : Int32)), .unset, .unset] []))
                  refine Gl.go ?_ (fun t k => XS.iconst X0.here hx rfl (hb hby d1_191) k)
                  show Gl _ _ _ _ (s₁.setTop (mkF m 192 #[.val (.ref a), .val (.int i), .val (.int to), .val (.int ((B i) &&& (255 : Int32))), .val (.int (3 : Int32)), .val (.int (128 : Int32)), .val (.int (191 : Int32)), .unset, .unset] [(.int (0 : Int32))]))
                  refine Gl.go ?_ (fun t k => XS.istore X0.here hx rfl (hb hby d1_192) rfl (l' := #[.val (.ref a), .val (.int i), .val (.int to), .val (.int ((B i) &&& (255 : Int32))), .val (.int (3 : Int32)), .val (.int (128 : Int32)), .val (.int (191 : Int32)), .val (.int (0 : Int32)), .unset]) rfl k)
                  show Gl _ _ _ _ (s₁.setTop (mkF m 194 #[.val (.ref a), .val (.int i), .val (.int to), .val (.int ((B i) &&& (255 : Int32))), .val (.int (3 : Int32)), .val (.int (128 : Int32)), .val (.int (191 : Int32)), .val (.int (0 : Int32)), .unset] []))
                  refine Gl.go ?_ (fun t k => XS.iconst X0.here hx rfl (hb hby d1_194) k)
                  show Gl _ _ _ _ (s₁.setTop (mkF m 195 #[.val (.ref a), .val (.int i), .val (.int to), .val (.int ((B i) &&& (255 : Int32))), .val (.int (3 : Int32)), .val (.int (128 : Int32)), .val (.int (191 : Int32)), .val (.int (0 : Int32)), .unset] [(.int (2 : Int32))]))
                  refine Gl.go ?_ (fun t k => XS.istore X0.here hx rfl (hb hby d1_195) rfl (l' := #[.val (.ref a), .val (.int i), .val (.int to), .val (.int ((B i) &&& (255 : Int32))), .val (.int (3 : Int32)), .val (.int (128 : Int32)), .val (.int (191 : Int32)), .val (.int (0 : Int32)), .val (.int (2 : Int32))]) rfl k)
                  show Gl _ _ _ _ (s₁.setTop (mkF m 197 #[.val (.ref a), .val (.int i), .val (.int to), .val (.int ((B i) &&& (255 : Int32))), .val (.int (3 : Int32)), .val (.int (128 : Int32)), .val (.int (191 : Int32)), .val (.int (0 : Int32)), .val (.int (2 : Int32))] []))
                  refine Gl.go ?_ (fun t k => XS.iload X0.here hx rfl (hb hby d1_197) rfl k)
                  show Gl _ _ _ _ (s₁.setTop (mkF m 199 #[.val (.ref a), .val (.int i), .val (.int to), .val (.int ((B i) &&& (255 : Int32))), .val (.int (3 : Int32)), .val (.int (128 : Int32)), .val (.int (191 : Int32)), .val (.int (0 : Int32)), .val (.int (2 : Int32))] [(.int (0 : Int32))]))
                  refine Gl.go ?_ (fun t k => XS.ifYes X0.here hx rfl (pc0 := 199) (pc' := 238) rfl (hb hby d1_199) rfl ((if0 _ _).trans (teq (by decide : (0 : Int32) = (0 : Int32))).1) (by decide) (by decide) k)
                  show Gl _ _ _ _ (s₁.setTop (mkF m 238 #[.val (.ref a), .val (.int i), .val (.int to), .val (.int ((B i) &&& (255 : Int32))), .val (.int (3 : Int32)), .val (.int (128 : Int32)), .val (.int (191 : Int32)), .val (.int (0 : Int32)), .val (.int (2 : Int32))] []))
                  refine Gl.go ?_ (fun t k => XS.iload X0.here hx rfl (hb hby d1_238) rfl k)
                  show Gl _ _ _ _ (s₁.setTop (mkF m 240 #[.val (.ref a), .val (.int i), .val (.int to), .val (.int ((B i) &&& (255 : Int32))), .val (.int (3 : Int32)), .val (.int (128 : Int32)), .val (.int (191 : Int32)), .val (.int (0 : Int32)), .val (.int (2 : Int32))] [(.int (0 : Int32))]))
                  refine Gl.go ?_ (fun t k => XS.ifYes X0.here hx rfl (pc0 := 240) (pc' := 250) rfl (hb hby d1_240) rfl ((if0 _ _).trans (teq (by decide : (0 : Int32) = (0 : Int32))).1) (by decide) (by decide) k)
                  show Gl _ _ _ _ (s₁.setTop (mkF m 250 #[.val (.ref a), .val (.int i), .val (.int to), .val (.int ((B i) &&& (255 : Int32))), .val (.int (3 : Int32)), .val (.int (128 : Int32)), .val (.int (191 : Int32)), .val (.int (0 : Int32)), .val (.int (2 : Int32))] []))
                  refine Gl.go ?_ (fun t k => XS.iconst X0.here hx rfl (hb hby d1_250) k)
                  show Gl _ _ _ _ (s₁.setTop (mkF m 251 #[.val (.ref a), .val (.int i), .val (.int to), .val (.int ((B i) &&& (255 : Int32))), .val (.int (3 : Int32)), .val (.int (128 : Int32)), .val (.int (191 : Int32)), .val (.int (0 : Int32)), .val (.int (2 : Int32))] [(.int (-1 : Int32))]))
                  obtain ⟨fs, hr, hrun, hended, hW, hsame⟩ := X0.leave (v := some (.int (-1 : Int32))) (fun h => by rw [Bd.returns] at h; cases h) (BodyLoose.notSynchronized Bd)
                  exact Gl.mk ⟨_, _, retI X0 hx Bd.returns (hb hby d1_251) hr, hrun, hended, _, _, rfl, ⟨congrArg (fun z => some (Value.int z)) ((if_neg hc30).trans ((if_pos hc31).trans ((if_neg hc32).trans ((if_neg hc51).trans ((if_neg hc56).trans ((if_neg hc61).trans ((if_neg hc62).trans ((if_pos hc63).trans (rfl))))))))).symm, rfl, e0⟩, ⟨_, rfl⟩, hW, hsame.mono (by decide) (by decide)⟩
                · refine Gl.go ?_ (fun t k => XS.icmpNo X0.here hx rfl (hb hby d1_184) rfl (flt hc63).2.2.1 k)
                  show Gl _ _ _ _ (s₁.setTop (mkF m 187 #[.val (.ref a), .val (.int i), .val (.int to), .val (.int ((B i) &&& (255 : Int32))), .val (.int (3 : Int32)), .val (.int (128 : Int32)), .val (.int (191 : Int32)), .unset, .unset] []))
                  refine Gl.go ?_ (fun t k => XS.iconst X0.here hx rfl (hb hby d1_187) k)
                  show Gl _ _ _ _ (s₁.setTop (mkF m 188 #[.val (.ref a), .val (.int i), .val (.int to), .val (.int ((B i) &&& (255 : Int32))), .val (.int (3 : Int32)), .val (.int (128 : Int32)), .val (.int (191 : Int32)), .unset, .unset] [(.int (1 : Int32))]))
                  refine Gl.go ?_ (fun t k => XS.goto X0.here hx rfl (pc0 := 188) (pc' := 192) rfl (hb hby d1_188) (by decide) (by decide) k)
                  show Gl _ _ _ _ (s₁.setTop (mkF m 192 #[.val (.ref a), .val (.int i), .val (.int to), .val (.int ((B i) &&& (255 : Int32))), .val (.int (3 : Int32)), .val (.int (128 : Int32)), .val (.int (191 : Int32)), .unset, .unset] [(.int (1 : Int32))]))
                  refine Gl.go ?_ (fun t k => XS.istore X0.here hx rfl (hb hby d1_192) rfl (l' := #[.val (.ref a), .val (.int i), .val (.int to), .val (.int ((B i) &&& (255 : Int32))), .val (.int (3 : Int32)), .val (.int (128 : Int32)), .val (.int (191 : Int32)), .val (.int (1 : Int32)), .unset]) rfl k)
                  show Gl _ _ _ _ (s₁.setTop (mkF m 194 #[.val (.ref a), .val (.int i), .val (.int to), .val (.int ((B i) &&& (255 : Int32))), .val (.int (3 : Int32)), .val (.int (128 : Int32)), .val (.int (191 : Int32)), .val (.int (1 : Int32)), .unset] []))
                  refine Gl.go ?_ (fun t k => XS.iconst X0.here hx rfl (hb hby d1_194) k)
                  show Gl _ _ _ _ (s₁.setTop (mkF m 195 #[.val (.ref a), .val (.int i), .val (.int to), .val (.int ((B i) &&& (255 : Int32))), .val (.int (3 : Int32)), .val (.int (128 : Int32)), .val (.int (191 : Int32)), .val (.int (1 : Int32)), .unset] [(.int (2 : Int32))]))
                  refine Gl.go ?_ (fun t k => XS.istore X0.here hx rfl (hb hby d1_195) rfl (l' := #[.val (.ref a), .val (.int i), .val (.int to), .val (.int ((B i) &&& (255 : Int32))), .val (.int (3 : Int32)), .val (.int (128 : Int32)), .val (.int (191 : Int32)), .val (.int (1 : Int32)), .val (.int (2 : Int32))]) rfl k)
                  show Gl _ _ _ _ (s₁.setTop (mkF m 197 #[.val (.ref a), .val (.int i), .val (.int to), .val (.int ((B i) &&& (255 : Int32))), .val (.int (3 : Int32)), .val (.int (128 : Int32)), .val (.int (191 : Int32)), .val (.int (1 : Int32)), .val (.int (2 : Int32))] []))
                  refine Gl.go ?_ (fun t k => XS.iload X0.here hx rfl (hb hby d1_197) rfl k)
                  show Gl _ _ _ _ (s₁.setTop (mkF m 199 #[.val (.ref a), .val (.int i), .val (.int to), .val (.int ((B i) &&& (255 : Int32))), .val (.int (3 : Int32)), .val (.int (128 : Int32)), .val (.int (191 : Int32)), .val (.int (1 : Int32)), .val (.int (2 : Int32))] [(.int (1 : Int32))]))
                  refine Gl.go ?_ (fun t k => XS.ifNo X0.here hx rfl (hb hby d1_199) rfl ((if0 _ _).trans (feq (by decide : ¬ ((1 : Int32) = (0 : Int32)))).1) k)
                  show Gl _ _ _ _ (s₁.setTop (mkF m 202 #[.val (.ref a), .val (.int i), .val (.int to), .val (.int ((B i) &&& (255 : Int32))), .val (.int (3 : Int32)), .val (.int (128 : Int32)), .val (.int (191 : Int32)), .val (.int (1 : Int32)), .val (.int (2 : Int32))] []))
                  refine Gl.go ?_ (fun t k => XS.iload X0.here hx rfl (hb hby d1_202) rfl k)
                  show Gl _ _ _ _ (s₁.setTop (mkF m 204 #[.val (.ref a), .val (.int i), .val (.int to), .val (.int ((B i) &&& (255 : Int32))), .val (.int (3 : Int32)), .val (.int (128 : Int32)), .val (.int (191 : Int32)), .val (.int (1 : Int32)), .val (.int (2 : Int32))] [(.int (2 : Int32))]))
                  refine Gl.go ?_ (fun t k => XS.iload X0.here hx rfl (hb hby d1_204) rfl k)
                  show Gl _ _ _ _ (s₁.setTop (mkF m 206 #[.val (.ref a), .val (.int i), .val (.int to), .val (.int ((B i) &&& (255 : Int32))), .val (.int (3 : Int32)), .val (.int (128 : Int32)), .val (.int (191 : Int32)), .val (.int (1 : Int32)), .val (.int (2 : Int32))] [(.int (3 : Int32)), (.int (2 : Int32))]))
                  refine Gl.go ?_ (fun t k => XS.icmpNo X0.here hx rfl (hb hby d1_206) rfl (tlt (by decide : (2 : Int32) < (3 : Int32))).2.1 k)
                  show Gl _ _ _ _ (s₁.setTop (mkF m 209 #[.val (.ref a), .val (.int i), .val (.int to), .val (.int ((B i) &&& (255 : Int32))), .val (.int (3 : Int32)), .val (.int (128 : Int32)), .val (.int (191 : Int32)), .val (.int (1 : Int32)), .val (.int (2 : Int32))] []))
                  refine Gl.go ?_ (fun t k => XS.aloadN X0.here hx rfl (hb hby d1_209) rfl rfl k)
                  show Gl _ _ _ _ (s₁.setTop (mkF m 210 #[.val (.ref a), .val (.int i), .val (.int to), .val (.int ((B i) &&& (255 : Int32))), .val (.int (3 : Int32)), .val (.int (128 : Int32)), .val (.int (191 : Int32)), .val (.int (1 : Int32)), .val (.int (2 : Int32))] [(.ref a)]))
                  refine Gl.go ?_ (fun t k => XS.iloadN X0.here hx rfl (hb hby d1_210) rfl k)
                  show Gl _ _ _ _ (s₁.setTop (mkF m 211 #[.val (.ref a), .val (.int i), .val (.int to), .val (.int ((B i) &&& (255 : Int32))), .val (.int (3 : Int32)), .val (.int (128 : Int32)), .val (.int (191 : Int32)), .val (.int (1 : Int32)), .val (.int (2 : Int32))] [(.int i), (.ref a)]))
                  refine Gl.go ?_ (fun t k => XS.iload X0.here hx rfl (hb hby d1_211) rfl k)
                  show Gl _ _ _ _ (s₁.setTop (mkF m 213 #[.val (.ref a), .val (.int i), .val (.int to), .val (.int ((B i) &&& (255 : Int32))), .val (.int (3 : Int32)), .val (.int (128 : Int32)), .val (.int (191 : Int32)), .val (.int (1 : Int32)), .val (.int (2 : Int32))] [(.int (2 : Int32)), (.int i), (.ref a)]))
                  refine Gl.go ?_ (fun t k => XS.iadd X0.here hx rfl (hb hby d1_213) rfl k)
                  show Gl _ _ _ _ (s₁.setTop (mkF m 214 #[.val (.ref a), .val (.int i), .val (.int to), .val (.int ((B i) &&& (255 : Int32))), .val (.int (3 : Int32)), .val (.int (128 : Int32)), .val (.int (191 : Int32)), .val (.int (1 : Int32)), .val (.int (2 : Int32))] [(.int (i + (2 : Int32))), (.ref a)]))
                  refine Gl.go ?_ (BA.rdB hB X0 hx hZ e0 hi2.1 hi2.2 (g := (mkF m 214 #[.val (.ref a), .val (.int i), .val (.int to), .val (.int ((B i) &&& (255 : Int32))), .val (.int (3 : Int32)), .val (.int (128 : Int32)), .val (.int (191 : Int32)), .val (.int (1 : Int32)), .val (.int (2 : Int32))] [(.int (i + (2 : Int32))), (.ref a)])) rfl rfl (hb hby d1_214))
                  show Gl _ _ _ _ (s₁.setTop (mkF m 215 #[.val (.ref a), .val (.int i), .val (.int to), .val (.int ((B i) &&& (255 : Int32))), .val (.int (3 : Int32)), .val (.int (128 : Int32)), .val (.int (191 : Int32)), .val (.int (1 : Int32)), .val (.int (2 : Int32))] [(.int (B (i + (2 : Int32))))]))
                  refine Gl.go ?_ (fun t k => XS.sipush X0.here hx rfl (hb hby d1_215) k)
                  show Gl _ _ _ _ (s₁.setTop (mkF m 218 #[.val (.ref a), .val (.int i), .val (.int to), .val (.int ((B i) &&& (255 : Int32))), .val (.int (3 : Int32)), .val (.int (128 : Int32)), .val (.int (191 : Int32)), .val (.int (1 : Int32)), .val (.int (2 : Int32))] [(.int (192 : Int32)), (.int (B (i + (2 : Int32))))]))
                  refine Gl.go ?_ (fun t k => XS.iand X0.here hx rfl (hb hby d1_218) rfl k)
                  show Gl _ _ _ _ (s₁.setTop (mkF m 219 #[.val (.ref a), .val (.int i), .val (.int to), .val (.int ((B i) &&& (255 : Int32))), .val (.int (3 : Int32)), .val (.int (128 : Int32)), .val (.int (191 : Int32)), .val (.int (1 : Int32)), .val (.int (2 : Int32))] [(.int ((B (i + (2 : Int32))) &&& (192 : Int32)))]))
                  refine Gl.go ?_ (fun t k => XS.sipush X0.here hx rfl (hb hby d1_219) k)
                  show Gl _ _ _ _ (s₁.setTop (mkF m 222 #[.val (.ref a), .val (.int i), .val (.int to), .val (.int ((B i) &&& (255 : Int32))), .val (.int (3 : Int32)), .val (.int (128 : Int32)), .val (.int (191 : Int32)), .val (.int (1 : Int32)), .val (.int (2 : Int32))] [(.int (128 : Int32)), (.int ((B (i + (2 : Int32))) &&& (192 : Int32)))]))
                  by_cases hc64 : ((B (i + (2 : Int32))) &&& (192 : Int32)) = (128 : Int32)
                  · refine Gl.go ?_ (fun t k => XS.icmpNo X0.here hx rfl (hb hby d1_222) rfl (teq hc64).2 k)
                    show Gl _ _ _ _ (s₁.setTop (mkF m 225 #[.val (.ref a), .val (.int i), .val (.int to), .val (.int ((B i) &&& (255 : Int32))), .val (.int (3 : Int32)), .val (.int (128 : Int32)), .val (.int (191 : Int32)), .val (.int (1 : Int32)), .val (.int (2 : Int32))] []))
                    refine Gl.go ?_ (fun t k => XS.iconst X0.here hx rfl (hb hby d1_225) k)
                    show Gl _ _ _ _ (s₁.setTop (mkF m 226 #[.val (.ref a), .val (.int i), .val (.int to), .val (.int ((B i) &&& (255 : Int32))), .val (.int (3 : Int32)), .val (.int (128 : Int32)), .val (.int (191 : Int32)), .val (.int (1 : Int32)), .val (.int (2 : Int32))] [(.int (1 : Int32))]))
                    refine Gl.go ?_ (fun t k => XS.goto X0.here hx rfl (pc0 := 226) (pc' := 230) rfl (hb hby d1_226) (by decide) (by decide) k)
                    show Gl _ _ _ _ (s₁.setTop (mkF m 230 #[.val (.ref a), .val (.int i), .val (.int to), .val (.int ((B i) &&& (255 : Int32))), .val (.int (3 : Int32)), .val (.int (128 : Int32)), .val (.int (191 : Int32)), .val (.int (1 : Int32)), .val (.int (2 : Int32))] [(.int (1 : Int32))]))
                    refine Gl.go ?_ (fun t k => XS.istore X0.here hx rfl (hb hby d1_230) rfl (l' := #[.val (.ref a), .val (.int i), .val (.int to), .val (.int ((B i) &&& (255 : Int32))), .val (.int (3 : Int32)), .val (.int (128 : Int32)), .val (.int (191 : Int32)), .val (.int (1 : Int32)), .val (.int (2 : Int32))]) rfl k)
                    show Gl _ _ _ _ (s₁.setTop (mkF m 232 #[.val (.ref a), .val (.int i), .val (.int to), .val (.int ((B i) &&& (255 : Int32))), .val (.int (3 : Int32)), .val (.int (128 : Int32)), .val (.int (191 : Int32)), .val (.int (1 : Int32)), .val (.int (2 : Int32))] []))
                    refine Gl.go ?_ (fun t k => XS.iinc X0.here hx rfl (hb hby d1_232) rfl (l' := #[.val (.ref a), .val (.int i), .val (.int to), .val (.int ((B i) &&& (255 : Int32))), .val (.int (3 : Int32)), .val (.int (128 : Int32)), .val (.int (191 : Int32)), .val (.int (1 : Int32)), .val (.int (3 : Int32))]) rfl k)
                    show Gl _ _ _ _ (s₁.setTop (mkF m 235 #[.val (.ref a), .val (.int i), .val (.int to), .val (.int ((B i) &&& (255 : Int32))), .val (.int (3 : Int32)), .val (.int (128 : Int32)), .val (.int (191 : Int32)), .val (.int (1 : Int32)), .val (.int (3 : Int32))] []))
                    refine Gl.go ?_ (fun t k => XS.goto X0.here hx rfl (pc0 := 235) (pc' := 197) rfl (hb hby d1_235) (by decide) (by decide) k)
                    show Gl _ _ _ _ (s₁.setTop (mkF m 197 #[.val (.ref a), .val (.int i), .val (.int to), .val (.int ((B i) &&& (255 : Int32))), .val (.int (3 : Int32)), .val (.int (128 : Int32)), .val (.int (191 : Int32)), .val (.int (1 : Int32)), .val (.int (3 : Int32))] []))
                    refine Gl.go ?_ (fun t k => XS.iload X0.here hx rfl (hb hby d1_197) rfl k)
                    show Gl _ _ _ _ (s₁.setTop (mkF m 199 #[.val (.ref a), .val (.int i), .val (.int to), .val (.int ((B i) &&& (255 : Int32))), .val (.int (3 : Int32)), .val (.int (128 : Int32)), .val (.int (191 : Int32)), .val (.int (1 : Int32)), .val (.int (3 : Int32))] [(.int (1 : Int32))]))
                    refine Gl.go ?_ (fun t k => XS.ifNo X0.here hx rfl (hb hby d1_199) rfl ((if0 _ _).trans (feq (by decide : ¬ ((1 : Int32) = (0 : Int32)))).1) k)
                    show Gl _ _ _ _ (s₁.setTop (mkF m 202 #[.val (.ref a), .val (.int i), .val (.int to), .val (.int ((B i) &&& (255 : Int32))), .val (.int (3 : Int32)), .val (.int (128 : Int32)), .val (.int (191 : Int32)), .val (.int (1 : Int32)), .val (.int (3 : Int32))] []))
                    refine Gl.go ?_ (fun t k => XS.iload X0.here hx rfl (hb hby d1_202) rfl k)
                    show Gl _ _ _ _ (s₁.setTop (mkF m 204 #[.val (.ref a), .val (.int i), .val (.int to), .val (.int ((B i) &&& (255 : Int32))), .val (.int (3 : Int32)), .val (.int (128 : Int32)), .val (.int (191 : Int32)), .val (.int (1 : Int32)), .val (.int (3 : Int32))] [(.int (3 : Int32))]))
                    refine Gl.go ?_ (fun t k => XS.iload X0.here hx rfl (hb hby d1_204) rfl k)
                    show Gl _ _ _ _ (s₁.setTop (mkF m 206 #[.val (.ref a), .val (.int i), .val (.int to), .val (.int ((B i) &&& (255 : Int32))), .val (.int (3 : Int32)), .val (.int (128 : Int32)), .val (.int (191 : Int32)), .val (.int (1 : Int32)), .val (.int (3 : Int32))] [(.int (3 : Int32)), (.int (3 : Int32))]))
                    refine Gl.go ?_ (fun t k => XS.icmpYes X0.here hx rfl (pc0 := 206) (pc' := 238) rfl (hb hby d1_206) rfl (flt (by decide : ¬ ((3 : Int32) < (3 : Int32)))).2.1 (by decide) (by decide) k)
                    show Gl _ _ _ _ (s₁.setTop (mkF m 238 #[.val (.ref a), .val (.int i), .val (.int to), .val (.int ((B i) &&& (255 : Int32))), .val (.int (3 : Int32)), .val (.int (128 : Int32)), .val (.int (191 : Int32)), .val (.int (1 : Int32)), .val (.int (3 : Int32))] []))
                    refine Gl.go ?_ (fun t k => XS.iload X0.here hx rfl (hb hby d1_238) rfl k)
                    show Gl _ _ _ _ (s₁.setTop (mkF m 240 #[.val (.ref a), .val (.int i), .val (.int to), .val (.int ((B i) &&& (255 : Int32))), .val (.int (3 : Int32)), .val (.int (128 : Int32)), .val (.int (191 : Int32)), .val (.int (1 : Int32)), .val (.int (3 : Int32))] [(.int (1 : Int32))]))
                    refine Gl.go ?_ (fun t k => XS.ifNo X0.here hx rfl (hb hby d1_240) rfl ((if0 _ _).trans (feq (by decide : ¬ ((1 : Int32) = (0 : Int32)))).1) k)
                    show Gl _ _ _ _ (s₁.setTop (mkF m 243 #[.val (.ref a), .val (.int i), .val (.int to), .val (.int ((B i) &&& (255 : Int32))), .val (.int (3 : Int32)), .val (.int (128 : Int32)), .val (.int (191 : Int32)), .val (.int (1 : Int32)), .val (.int (3 : Int32))] []))
                    refine Gl.go ?_ (fun t k => XS.iloadN X0.here hx rfl (hb hby d1_243) rfl k)
                    show Gl _ _ _ _ (s₁.setTop (mkF m 244 #[.val (.ref a), .val (.int i), .val (.int to), .val (.int ((B i) &&& (255 : Int32))), .val (.int (3 : Int32)), .val (.int (128 : Int32)), .val (.int (191 : Int32)), .val (.int (1 : Int32)), .val (.int (3 : Int32))] [(.int i)]))
                    refine Gl.go ?_ (fun t k => XS.iload X0.here hx rfl (hb hby d1_244) rfl k)
                    show Gl _ _ _ _ (s₁.setTop (mkF m 246 #[.val (.ref a), .val (.int i), .val (.int to), .val (.int ((B i) &&& (255 : Int32))), .val (.int (3 : Int32)), .val (.int (128 : Int32)), .val (.int (191 : Int32)), .val (.int (1 : Int32)), .val (.int (3 : Int32))] [(.int (3 : Int32)), (.int i)]))
                    refine Gl.go ?_ (fun t k => XS.iadd X0.here hx rfl (hb hby d1_246) rfl k)
                    show Gl _ _ _ _ (s₁.setTop (mkF m 247 #[.val (.ref a), .val (.int i), .val (.int to), .val (.int ((B i) &&& (255 : Int32))), .val (.int (3 : Int32)), .val (.int (128 : Int32)), .val (.int (191 : Int32)), .val (.int (1 : Int32)), .val (.int (3 : Int32))] [(.int (i + (3 : Int32)))]))
                    refine Gl.go ?_ (fun t k => XS.goto X0.here hx rfl (pc0 := 247) (pc' := 251) rfl (hb hby d1_247) (by decide) (by decide) k)
                    show Gl _ _ _ _ (s₁.setTop (mkF m 251 #[.val (.ref a), .val (.int i), .val (.int to), .val (.int ((B i) &&& (255 : Int32))), .val (.int (3 : Int32)), .val (.int (128 : Int32)), .val (.int (191 : Int32)), .val (.int (1 : Int32)), .val (.int (3 : Int32))] [(.int (i + (3 : Int32)))]))
                    obtain ⟨fs, hr, hrun, hended, hW, hsame⟩ := X0.leave (v := some (.int (i + (3 : Int32)))) (fun h => by rw [Bd.returns] at h; cases h) (BodyLoose.notSynchronized Bd)
                    exact Gl.mk ⟨_, _, retI X0 hx Bd.returns (hb hby d1_251) hr, hrun, hended, _, _, rfl, ⟨congrArg (fun z => some (Value.int z)) ((if_neg hc30).trans ((if_pos hc31).trans ((if_neg hc32).trans ((if_neg hc51).trans ((if_neg hc56).trans ((if_neg hc61).trans ((if_neg hc62).trans ((if_neg hc63).trans ((if_pos hc64).trans (rfl)))))))))).symm, rfl, e0⟩, ⟨_, rfl⟩, hW, hsame.mono (by decide) (by decide)⟩
                  · refine Gl.go ?_ (fun t k => XS.icmpYes X0.here hx rfl (pc0 := 222) (pc' := 229) rfl (hb hby d1_222) rfl (feq hc64).2 (by decide) (by decide) k)
                    show Gl _ _ _ _ (s₁.setTop (mkF m 229 #[.val (.ref a), .val (.int i), .val (.int to), .val (.int ((B i) &&& (255 : Int32))), .val (.int (3 : Int32)), .val (.int (128 : Int32)), .val (.int (191 : Int32)), .val (.int (1 : Int32)), .val (.int (2 : Int32))] []))
                    refine Gl.go ?_ (fun t k => XS.iconst X0.here hx rfl (hb hby d1_229) k)
                    show Gl _ _ _ _ (s₁.setTop (mkF m 230 #[.val (.ref a), .val (.int i), .val (.int to), .val (.int ((B i) &&& (255 : Int32))), .val (.int (3 : Int32)), .val (.int (128 : Int32)), .val (.int (191 : Int32)), .val (.int (1 : Int32)), .val (.int (2 : Int32))] [(.int (0 : Int32))]))
                    refine Gl.go ?_ (fun t k => XS.istore X0.here hx rfl (hb hby d1_230) rfl (l' := #[.val (.ref a), .val (.int i), .val (.int to), .val (.int ((B i) &&& (255 : Int32))), .val (.int (3 : Int32)), .val (.int (128 : Int32)), .val (.int (191 : Int32)), .val (.int (0 : Int32)), .val (.int (2 : Int32))]) rfl k)
                    show Gl _ _ _ _ (s₁.setTop (mkF m 232 #[.val (.ref a), .val (.int i), .val (.int to), .val (.int ((B i) &&& (255 : Int32))), .val (.int (3 : Int32)), .val (.int (128 : Int32)), .val (.int (191 : Int32)), .val (.int (0 : Int32)), .val (.int (2 : Int32))] []))
                    refine Gl.go ?_ (fun t k => XS.iinc X0.here hx rfl (hb hby d1_232) rfl (l' := #[.val (.ref a), .val (.int i), .val (.int to), .val (.int ((B i) &&& (255 : Int32))), .val (.int (3 : Int32)), .val (.int (128 : Int32)), .val (.int (191 : Int32)), .val (.int (0 : Int32)), .val (.int (3 : Int32))]) rfl k)
                    show Gl _ _ _ _ (s₁.setTop (mkF m 235 #[.val (.ref a), .val (.int i), .val (.int to), .val (.int ((B i) &&& (255 : Int32))), .val (.int (3 : Int32)), .val (.int (128 : Int32)), .val (.int (191 : Int32)), .val (.int (0 : Int32)), .val (.int (3 : Int32))] []))
                    refine Gl.go ?_ (fun t k => XS.goto X0.here hx rfl (pc0 := 235) (pc' := 197) rfl (hb hby d1_235) (by decide) (by decide) k)
                    show Gl _ _ _ _ (s₁.setTop (mkF m 197 #[.val (.ref a), .val (.int i), .val (.int to), .val (.int ((B i) &&& (255 : Int32))), .val (.int (3 : Int32)), .val (.int (128 : Int32)), .val (.int (191 : Int32)), .val (.int (0 : Int32)), .val (.int (3 : Int32))] []))
                    refine Gl.go ?_ (fun t k => XS.iload X0.here hx rfl (hb hby d1_197) rfl k)
                    show Gl _ _ _ _ (s₁.setTop (mkF m 199 #[.val (.ref a), .val (.int i), .val (.int to), .val (.int ((B i) &&& (255 : Int32))), .val (.int (3 : Int32)), .val (.int (128 : Int32)), .val (.int (191 : Int32)), .val (.int (0 : Int32)), .val (.int (3 : Int32))] [(.int (0 : Int32))]))
                    refine Gl.go ?_ (fun t k => XS.ifYes X0.here hx rfl (pc0 := 199) (pc' := 238) rfl (hb hby d1_199) rfl ((if0 _ _).trans (teq (by decide : (0 : Int32) = (0 : Int32))).1) (by decide) (by decide) k)
                    show Gl _ _ _ _ (s₁.setTop (mkF m 238 #[.val (.ref a), .val (.int i), .val (.int to), .val (.int ((B i) &&& (255 : Int32))), .val (.int (3 : Int32)), .val (.int (128 : Int32)), .val (.int (191 : Int32)), .val (.int (0 : Int32)), .val (.int (3 : Int32))] []))
                    refine Gl.go ?_ (fun t k => XS.iload X0.here hx rfl (hb hby d1_238) rfl k)
                    show Gl _ _ _ _ (s₁.setTop (mkF m 240 #[.val (.ref a), .val (.int i), .val (.int to), .val (.int ((B i) &&& (255 : Int32))), .val (.int (3 : Int32)), .val (.int (128 : Int32)), .val (.int (191 : Int32)), .val (.int (0 : Int32)), .val (.int (3 : Int32))] [(.int (0 : Int32))]))
                    refine Gl.go ?_ (fun t k => XS.ifYes X0.here hx rfl (pc0 := 240) (pc' := 250) rfl (hb hby d1_240) rfl ((if0 _ _).trans (teq (by decide : (0 : Int32) = (0 : Int32))).1) (by decide) (by decide) k)
                    show Gl _ _ _ _ (s₁.setTop (mkF m 250 #[.val (.ref a), .val (.int i), .val (.int to), .val (.int ((B i) &&& (255 : Int32))), .val (.int (3 : Int32)), .val (.int (128 : Int32)), .val (.int (191 : Int32)), .val (.int (0 : Int32)), .val (.int (3 : Int32))] []))
                    refine Gl.go ?_ (fun t k => XS.iconst X0.here hx rfl (hb hby d1_250) k)
                    show Gl _ _ _ _ (s₁.setTop (mkF m 251 #[.val (.ref a), .val (.int i), .val (.int to), .val (.int ((B i) &&& (255 : Int32))), .val (.int (3 : Int32)), .val (.int (128 : Int32)), .val (.int (191 : Int32)), .val (.int (0 : Int32)), .val (.int (3 : Int32))] [(.int (-1 : Int32))]))
                    obtain ⟨fs, hr, hrun, hended, hW, hsame⟩ := X0.leave (v := some (.int (-1 : Int32))) (fun h => by rw [Bd.returns] at h; cases h) (BodyLoose.notSynchronized Bd)
                    exact Gl.mk ⟨_, _, retI X0 hx Bd.returns (hb hby d1_251) hr, hrun, hended, _, _, rfl, ⟨congrArg (fun z => some (Value.int z)) ((if_neg hc30).trans ((if_pos hc31).trans ((if_neg hc32).trans ((if_neg hc51).trans ((if_neg hc56).trans ((if_neg hc61).trans ((if_neg hc62).trans ((if_neg hc63).trans ((if_neg hc64).trans (rfl)))))))))).symm, rfl, e0⟩, ⟨_, rfl⟩, hW, hsame.mono (by decide) (by decide)⟩
    · refine Gl.go ?_ (fun t k => XS.icmpNo X0.here hx rfl (hb hby d1_32) rfl (flt hc31).2.2.1 k)
      show Gl _ _ _ _ (s₁.setTop (mkF m 35 #[.val (.ref a), .val (.int i), .val (.int to), .val (.int ((B i) &&& (255 : Int32))), .val (.int (0 : Int32)), .val (.int (128 : Int32)), .val (.int (191 : Int32)), .unset, .unset] []))
      refine Gl.go ?_ (fun t k => XS.iconst X0.here hx rfl (hb hby d1_35) k)
      show Gl _ _ _ _ (s₁.setTop (mkF m 36 #[.val (.ref a), .val (.int i), .val (.int to), .val (.int ((B i) &&& (255 : Int32))), .val (.int (0 : Int32)), .val (.int (128 : Int32)), .val (.int (191 : Int32)), .unset, .unset] [(.int (2 : Int32))]))
      refine Gl.go ?_ (fun t k => XS.istore X0.here hx rfl (hb hby d1_36) rfl (l' := #[.val (.ref a), .val (.int i), .val (.int to), .val (.int ((B i) &&& (255 : Int32))), .val (.int (2 : Int32)), .val (.int (128 : Int32)), .val (.int (191 : Int32)), .unset, .unset]) rfl k)
      show Gl _ _ _ _ (s₁.setTop (mkF m 38 #[.val (.ref a), .val (.int i), .val (.int to), .val (.int ((B i) &&& (255 : Int32))), .val (.int (2 : Int32)), .val (.int (128 : Int32)), .val (.int (191 : Int32)), .unset, .unset] []))
      refine Gl.go ?_ (fun t k => XS.goto X0.here hx rfl (pc0 := 38) (pc' := 146) rfl (hb hby d1_38) (by decide) (by decide) k)
      show Gl _ _ _ _ (s₁.setTop (mkF m 146 #[.val (.ref a), .val (.int i), .val (.int to), .val (.int ((B i) &&& (255 : Int32))), .val (.int (2 : Int32)), .val (.int (128 : Int32)), .val (.int (191 : Int32)), .unset, .unset] []))
      refine Gl.go ?_ (fun t k => XS.iload X0.here hx rfl (hb hby d1_146) rfl k)
      show Gl _ _ _ _ (s₁.setTop (mkF m 148 #[.val (.ref a), .val (.int i), .val (.int to), .val (.int ((B i) &&& (255 : Int32))), .val (.int (2 : Int32)), .val (.int (128 : Int32)), .val (.int (191 : Int32)), .unset, .unset] [(.int (2 : Int32))]))
      refine Gl.go ?_ (fun t k => XS.ifNo X0.here hx rfl (hb hby d1_148) rfl ((if0 _ _).trans (tlt (by decide : (0 : Int32) < (2 : Int32))).2.2.2) k)
      show Gl _ _ _ _ (s₁.setTop (mkF m 151 #[.val (.ref a), .val (.int i), .val (.int to), .val (.int ((B i) &&& (255 : Int32))), .val (.int (2 : Int32)), .val (.int (128 : Int32)), .val (.int (191 : Int32)), .unset, .unset] []))
      refine Gl.go ?_ (fun t k => XS.iloadN X0.here hx rfl (hb hby d1_151) rfl k)
      show Gl _ _ _ _ (s₁.setTop (mkF m 152 #[.val (.ref a), .val (.int i), .val (.int to), .val (.int ((B i) &&& (255 : Int32))), .val (.int (2 : Int32)), .val (.int (128 : Int32)), .val (.int (191 : Int32)), .unset, .unset] [(.int to)]))
      refine Gl.go ?_ (fun t k => XS.iloadN X0.here hx rfl (hb hby d1_152) rfl k)
      show Gl _ _ _ _ (s₁.setTop (mkF m 153 #[.val (.ref a), .val (.int i), .val (.int to), .val (.int ((B i) &&& (255 : Int32))), .val (.int (2 : Int32)), .val (.int (128 : Int32)), .val (.int (191 : Int32)), .unset, .unset] [(.int i), (.int to)]))
      refine Gl.go ?_ (fun t k => XS.isub X0.here hx rfl (hb hby d1_153) rfl k)
      show Gl _ _ _ _ (s₁.setTop (mkF m 154 #[.val (.ref a), .val (.int i), .val (.int to), .val (.int ((B i) &&& (255 : Int32))), .val (.int (2 : Int32)), .val (.int (128 : Int32)), .val (.int (191 : Int32)), .unset, .unset] [(.int (to - i))]))
      refine Gl.go ?_ (fun t k => XS.iload X0.here hx rfl (hb hby d1_154) rfl k)
      show Gl _ _ _ _ (s₁.setTop (mkF m 156 #[.val (.ref a), .val (.int i), .val (.int to), .val (.int ((B i) &&& (255 : Int32))), .val (.int (2 : Int32)), .val (.int (128 : Int32)), .val (.int (191 : Int32)), .unset, .unset] [(.int (2 : Int32)), (.int (to - i))]))
      by_cases hc65 : (to - i) < (2 : Int32)
      · refine Gl.go ?_ (fun t k => XS.icmpYes X0.here hx rfl (pc0 := 156) (pc' := 191) rfl (hb hby d1_156) rfl (tlt hc65).1 (by decide) (by decide) k)
        show Gl _ _ _ _ (s₁.setTop (mkF m 191 #[.val (.ref a), .val (.int i), .val (.int to), .val (.int ((B i) &&& (255 : Int32))), .val (.int (2 : Int32)), .val (.int (128 : Int32)), .val (.int (191 : Int32)), .unset, .unset] []))
        refine Gl.go ?_ (fun t k => XS.iconst X0.here hx rfl (hb hby d1_191) k)
        show Gl _ _ _ _ (s₁.setTop (mkF m 192 #[.val (.ref a), .val (.int i), .val (.int to), .val (.int ((B i) &&& (255 : Int32))), .val (.int (2 : Int32)), .val (.int (128 : Int32)), .val (.int (191 : Int32)), .unset, .unset] [(.int (0 : Int32))]))
        refine Gl.go ?_ (fun t k => XS.istore X0.here hx rfl (hb hby d1_192) rfl (l' := #[.val (.ref a), .val (.int i), .val (.int to), .val (.int ((B i) &&& (255 : Int32))), .val (.int (2 : Int32)), .val (.int (128 : Int32)), .val (.int (191 : Int32)), .val (.int (0 : Int32)), .unset]) rfl k)
        show Gl _ _ _ _ (s₁.setTop (mkF m 194 #[.val (.ref a), .val (.int i), .val (.int to), .val (.int ((B i) &&& (255 : Int32))), .val (.int (2 : Int32)), .val (.int (128 : Int32)), .val (.int (191 : Int32)), .val (.int (0 : Int32)), .unset] []))
        refine Gl.go ?_ (fun t k => XS.iconst X0.here hx rfl (hb hby d1_194) k)
        show Gl _ _ _ _ (s₁.setTop (mkF m 195 #[.val (.ref a), .val (.int i), .val (.int to), .val (.int ((B i) &&& (255 : Int32))), .val (.int (2 : Int32)), .val (.int (128 : Int32)), .val (.int (191 : Int32)), .val (.int (0 : Int32)), .unset] [(.int (2 : Int32))]))
        refine Gl.go ?_ (fun t k => XS.istore X0.here hx rfl (hb hby d1_195) rfl (l' := #[.val (.ref a), .val (.int i), .val (.int to), .val (.int ((B i) &&& (255 : Int32))), .val (.int (2 : Int32)), .val (.int (128 : Int32)), .val (.int (191 : Int32)), .val (.int (0 : Int32)), .val (.int (2 : Int32))]) rfl k)
        show Gl _ _ _ _ (s₁.setTop (mkF m 197 #[.val (.ref a), .val (.int i), .val (.int to), .val (.int ((B i) &&& (255 : Int32))), .val (.int (2 : Int32)), .val (.int (128 : Int32)), .val (.int (191 : Int32)), .val (.int (0 : Int32)), .val (.int (2 : Int32))] []))
        refine Gl.go ?_ (fun t k => XS.iload X0.here hx rfl (hb hby d1_197) rfl k)
        show Gl _ _ _ _ (s₁.setTop (mkF m 199 #[.val (.ref a), .val (.int i), .val (.int to), .val (.int ((B i) &&& (255 : Int32))), .val (.int (2 : Int32)), .val (.int (128 : Int32)), .val (.int (191 : Int32)), .val (.int (0 : Int32)), .val (.int (2 : Int32))] [(.int (0 : Int32))]))
        refine Gl.go ?_ (fun t k => XS.ifYes X0.here hx rfl (pc0 := 199) (pc' := 238) rfl (hb hby d1_199) rfl ((if0 _ _).trans (teq (by decide : (0 : Int32) = (0 : Int32))).1) (by decide) (by decide) k)
        show Gl _ _ _ _ (s₁.setTop (mkF m 238 #[.val (.ref a), .val (.int i), .val (.int to), .val (.int ((B i) &&& (255 : Int32))), .val (.int (2 : Int32)), .val (.int (128 : Int32)), .val (.int (191 : Int32)), .val (.int (0 : Int32)), .val (.int (2 : Int32))] []))
        refine Gl.go ?_ (fun t k => XS.iload X0.here hx rfl (hb hby d1_238) rfl k)
        show Gl _ _ _ _ (s₁.setTop (mkF m 240 #[.val (.ref a), .val (.int i), .val (.int to), .val (.int ((B i) &&& (255 : Int32))), .val (.int (2 : Int32)), .val (.int (128 : Int32)), .val (.int (191 : Int32)), .val (.int (0 : Int32)), .val (.int (2 : Int32))] [(.int (0 : Int32))]))
        refine Gl.go ?_ (fun t k => XS.ifYes X0.here hx rfl (pc0 := 240) (pc' := 250) rfl (hb hby d1_240) rfl ((if0 _ _).trans (teq (by decide : (0 : Int32) = (0 : Int32))).1) (by decide) (by decide) k)
        show Gl _ _ _ _ (s₁.setTop (mkF m 250 #[.val (.ref a), .val (.int i), .val (.int to), .val (.int ((B i) &&& (255 : Int32))), .val (.int (2 : Int32)), .val (.int (128 : Int32)), .val (.int (191 : Int32)), .val (.int (0 : Int32)), .val (.int (2 : Int32))] []))
        refine Gl.go ?_ (fun t k => XS.iconst X0.here hx rfl (hb hby d1_250) k)
        show Gl _ _ _ _ (s₁.setTop (mkF m 251 #[.val (.ref a), .val (.int i), .val (.int to), .val (.int ((B i) &&& (255 : Int32))), .val (.int (2 : Int32)), .val (.int (128 : Int32)), .val (.int (191 : Int32)), .val (.int (0 : Int32)), .val (.int (2 : Int32))] [(.int (-1 : Int32))]))
        obtain ⟨fs, hr, hrun, hended, hW, hsame⟩ := X0.leave (v := some (.int (-1 : Int32))) (fun h => by rw [Bd.returns] at h; cases h) (BodyLoose.notSynchronized Bd)
        exact Gl.mk ⟨_, _, retI X0 hx Bd.returns (hb hby d1_251) hr, hrun, hended, _, _, rfl, ⟨congrArg (fun z => some (Value.int z)) ((if_neg hc30).trans ((if_neg hc31).trans ((if_pos hc65).trans (rfl)))).symm, rfl, e0⟩, ⟨_, rfl⟩, hW, hsame.mono (by decide) (by decide)⟩
      · refine Gl.go ?_ (fun t k => XS.icmpNo X0.here hx rfl (hb hby d1_156) rfl (flt hc65).1 k)
        show Gl _ _ _ _ (s₁.setTop (mkF m 159 #[.val (.ref a), .val (.int i), .val (.int to), .val (.int ((B i) &&& (255 : Int32))), .val (.int (2 : Int32)), .val (.int (128 : Int32)), .val (.int (191 : Int32)), .unset, .unset] []))
        refine Gl.go ?_ (fun t k => XS.aloadN X0.here hx rfl (hb hby d1_159) rfl rfl k)
        show Gl _ _ _ _ (s₁.setTop (mkF m 160 #[.val (.ref a), .val (.int i), .val (.int to), .val (.int ((B i) &&& (255 : Int32))), .val (.int (2 : Int32)), .val (.int (128 : Int32)), .val (.int (191 : Int32)), .unset, .unset] [(.ref a)]))
        refine Gl.go ?_ (fun t k => XS.iloadN X0.here hx rfl (hb hby d1_160) rfl k)
        show Gl _ _ _ _ (s₁.setTop (mkF m 161 #[.val (.ref a), .val (.int i), .val (.int to), .val (.int ((B i) &&& (255 : Int32))), .val (.int (2 : Int32)), .val (.int (128 : Int32)), .val (.int (191 : Int32)), .unset, .unset] [(.int i), (.ref a)]))
        refine Gl.go ?_ (fun t k => XS.iconst X0.here hx rfl (hb hby d1_161) k)
        show Gl _ _ _ _ (s₁.setTop (mkF m 162 #[.val (.ref a), .val (.int i), .val (.int to), .val (.int ((B i) &&& (255 : Int32))), .val (.int (2 : Int32)), .val (.int (128 : Int32)), .val (.int (191 : Int32)), .unset, .unset] [(.int (1 : Int32)), (.int i), (.ref a)]))
        refine Gl.go ?_ (fun t k => XS.iadd X0.here hx rfl (hb hby d1_162) rfl k)
        show Gl _ _ _ _ (s₁.setTop (mkF m 163 #[.val (.ref a), .val (.int i), .val (.int to), .val (.int ((B i) &&& (255 : Int32))), .val (.int (2 : Int32)), .val (.int (128 : Int32)), .val (.int (191 : Int32)), .unset, .unset] [(.int (i + (1 : Int32))), (.ref a)]))
        refine Gl.go ?_ (BA.rdB hB X0 hx hZ e0 hi1.1 hi1.2 (g := (mkF m 163 #[.val (.ref a), .val (.int i), .val (.int to), .val (.int ((B i) &&& (255 : Int32))), .val (.int (2 : Int32)), .val (.int (128 : Int32)), .val (.int (191 : Int32)), .unset, .unset] [(.int (i + (1 : Int32))), (.ref a)])) rfl rfl (hb hby d1_163))
        show Gl _ _ _ _ (s₁.setTop (mkF m 164 #[.val (.ref a), .val (.int i), .val (.int to), .val (.int ((B i) &&& (255 : Int32))), .val (.int (2 : Int32)), .val (.int (128 : Int32)), .val (.int (191 : Int32)), .unset, .unset] [(.int (B (i + (1 : Int32))))]))
        refine Gl.go ?_ (fun t k => XS.sipush X0.here hx rfl (hb hby d1_164) k)
        show Gl _ _ _ _ (s₁.setTop (mkF m 167 #[.val (.ref a), .val (.int i), .val (.int to), .val (.int ((B i) &&& (255 : Int32))), .val (.int (2 : Int32)), .val (.int (128 : Int32)), .val (.int (191 : Int32)), .unset, .unset] [(.int (255 : Int32)), (.int (B (i + (1 : Int32))))]))
        refine Gl.go ?_ (fun t k => XS.iand X0.here hx rfl (hb hby d1_167) rfl k)
        show Gl _ _ _ _ (s₁.setTop (mkF m 168 #[.val (.ref a), .val (.int i), .val (.int to), .val (.int ((B i) &&& (255 : Int32))), .val (.int (2 : Int32)), .val (.int (128 : Int32)), .val (.int (191 : Int32)), .unset, .unset] [(.int ((B (i + (1 : Int32))) &&& (255 : Int32)))]))
        refine Gl.go ?_ (fun t k => XS.iload X0.here hx rfl (hb hby d1_168) rfl k)
        show Gl _ _ _ _ (s₁.setTop (mkF m 170 #[.val (.ref a), .val (.int i), .val (.int to), .val (.int ((B i) &&& (255 : Int32))), .val (.int (2 : Int32)), .val (.int (128 : Int32)), .val (.int (191 : Int32)), .unset, .unset] [(.int (128 : Int32)), (.int ((B (i + (1 : Int32))) &&& (255 : Int32)))]))
        by_cases hc66 : ((B (i + (1 : Int32))) &&& (255 : Int32)) < (128 : Int32)
        · refine Gl.go ?_ (fun t k => XS.icmpYes X0.here hx rfl (pc0 := 170) (pc' := 191) rfl (hb hby d1_170) rfl (tlt hc66).1 (by decide) (by decide) k)
          show Gl _ _ _ _ (s₁.setTop (mkF m 191 #[.val (.ref a), .val (.int i), .val (.int to), .val (.int ((B i) &&& (255 : Int32))), .val (.int (2 : Int32)), .val (.int (128 : Int32)), .val (.int (191 : Int32)), .unset, .unset] []))
          refine Gl.go ?_ (fun t k => XS.iconst X0.here hx rfl (hb hby d1_191) k)
          show Gl _ _ _ _ (s₁.setTop (mkF m 192 #[.val (.ref a), .val (.int i), .val (.int to), .val (.int ((B i) &&& (255 : Int32))), .val (.int (2 : Int32)), .val (.int (128 : Int32)), .val (.int (191 : Int32)), .unset, .unset] [(.int (0 : Int32))]))
          refine Gl.go ?_ (fun t k => XS.istore X0.here hx rfl (hb hby d1_192) rfl (l' := #[.val (.ref a), .val (.int i), .val (.int to), .val (.int ((B i) &&& (255 : Int32))), .val (.int (2 : Int32)), .val (.int (128 : Int32)), .val (.int (191 : Int32)), .val (.int (0 : Int32)), .unset]) rfl k)
          show Gl _ _ _ _ (s₁.setTop (mkF m 194 #[.val (.ref a), .val (.int i), .val (.int to), .val (.int ((B i) &&& (255 : Int32))), .val (.int (2 : Int32)), .val (.int (128 : Int32)), .val (.int (191 : Int32)), .val (.int (0 : Int32)), .unset] []))
          refine Gl.go ?_ (fun t k => XS.iconst X0.here hx rfl (hb hby d1_194) k)
          show Gl _ _ _ _ (s₁.setTop (mkF m 195 #[.val (.ref a), .val (.int i), .val (.int to), .val (.int ((B i) &&& (255 : Int32))), .val (.int (2 : Int32)), .val (.int (128 : Int32)), .val (.int (191 : Int32)), .val (.int (0 : Int32)), .unset] [(.int (2 : Int32))]))
          refine Gl.go ?_ (fun t k => XS.istore X0.here hx rfl (hb hby d1_195) rfl (l' := #[.val (.ref a), .val (.int i), .val (.int to), .val (.int ((B i) &&& (255 : Int32))), .val (.int (2 : Int32)), .val (.int (128 : Int32)), .val (.int (191 : Int32)), .val (.int (0 : Int32)), .val (.int (2 : Int32))]) rfl k)
          show Gl _ _ _ _ (s₁.setTop (mkF m 197 #[.val (.ref a), .val (.int i), .val (.int to), .val (.int ((B i) &&& (255 : Int32))), .val (.int (2 : Int32)), .val (.int (128 : Int32)), .val (.int (191 : Int32)), .val (.int (0 : Int32)), .val (.int (2 : Int32))] []))
          refine Gl.go ?_ (fun t k => XS.iload X0.here hx rfl (hb hby d1_197) rfl k)
          show Gl _ _ _ _ (s₁.setTop (mkF m 199 #[.val (.ref a), .val (.int i), .val (.int to), .val (.int ((B i) &&& (255 : Int32))), .val (.int (2 : Int32)), .val (.int (128 : Int32)), .val (.int (191 : Int32)), .val (.int (0 : Int32)), .val (.int (2 : Int32))] [(.int (0 : Int32))]))
          refine Gl.go ?_ (fun t k => XS.ifYes X0.here hx rfl (pc0 := 199) (pc' := 238) rfl (hb hby d1_199) rfl ((if0 _ _).trans (teq (by decide : (0 : Int32) = (0 : Int32))).1) (by decide) (by decide) k)
          show Gl _ _ _ _ (s₁.setTop (mkF m 238 #[.val (.ref a), .val (.int i), .val (.int to), .val (.int ((B i) &&& (255 : Int32))), .val (.int (2 : Int32)), .val (.int (128 : Int32)), .val (.int (191 : Int32)), .val (.int (0 : Int32)), .val (.int (2 : Int32))] []))
          refine Gl.go ?_ (fun t k => XS.iload X0.here hx rfl (hb hby d1_238) rfl k)
          show Gl _ _ _ _ (s₁.setTop (mkF m 240 #[.val (.ref a), .val (.int i), .val (.int to), .val (.int ((B i) &&& (255 : Int32))), .val (.int (2 : Int32)), .val (.int (128 : Int32)), .val (.int (191 : Int32)), .val (.int (0 : Int32)), .val (.int (2 : Int32))] [(.int (0 : Int32))]))
          refine Gl.go ?_ (fun t k => XS.ifYes X0.here hx rfl (pc0 := 240) (pc' := 250) rfl (hb hby d1_240) rfl ((if0 _ _).trans (teq (by decide : (0 : Int32) = (0 : Int32))).1) (by decide) (by decide) k)
          show Gl _ _ _ _ (s₁.setTop (mkF m 250 #[.val (.ref a), .val (.int i), .val (.int to), .val (.int ((B i) &&& (255 : Int32))), .val (.int (2 : Int32)), .val (.int (128 : Int32)), .val (.int (191 : Int32)), .val (.int (0 : Int32)), .val (.int (2 : Int32))] []))
          refine Gl.go ?_ (fun t k => XS.iconst X0.here hx rfl (hb hby d1_250) k)
          show Gl _ _ _ _ (s₁.setTop (mkF m 251 #[.val (.ref a), .val (.int i), .val (.int to), .val (.int ((B i) &&& (255 : Int32))), .val (.int (2 : Int32)), .val (.int (128 : Int32)), .val (.int (191 : Int32)), .val (.int (0 : Int32)), .val (.int (2 : Int32))] [(.int (-1 : Int32))]))
          obtain ⟨fs, hr, hrun, hended, hW, hsame⟩ := X0.leave (v := some (.int (-1 : Int32))) (fun h => by rw [Bd.returns] at h; cases h) (BodyLoose.notSynchronized Bd)
          exact Gl.mk ⟨_, _, retI X0 hx Bd.returns (hb hby d1_251) hr, hrun, hended, _, _, rfl, ⟨congrArg (fun z => some (Value.int z)) ((if_neg hc30).trans ((if_neg hc31).trans ((if_neg hc65).trans ((if_pos hc66).trans (rfl))))).symm, rfl, e0⟩, ⟨_, rfl⟩, hW, hsame.mono (by decide) (by decide)⟩
        · refine Gl.go ?_ (fun t k => XS.icmpNo X0.here hx rfl (hb hby d1_170) rfl (flt hc66).1 k)
          show Gl _ _ _ _ (s₁.setTop (mkF m 173 #[.val (.ref a), .val (.int i), .val (.int to), .val (.int ((B i) &&& (255 : Int32))), .val (.int (2 : Int32)), .val (.int (128 : Int32)), .val (.int (191 : Int32)), .unset, .unset] []))
          refine Gl.go ?_ (fun t k => XS.aloadN X0.here hx rfl (hb hby d1_173) rfl rfl k)
          show Gl _ _ _ _ (s₁.setTop (mkF m 174 #[.val (.ref a), .val (.int i), .val (.int to), .val (.int ((B i) &&& (255 : Int32))), .val (.int (2 : Int32)), .val (.int (128 : Int32)), .val (.int (191 : Int32)), .unset, .unset] [(.ref a)]))
          refine Gl.go ?_ (fun t k => XS.iloadN X0.here hx rfl (hb hby d1_174) rfl k)
          show Gl _ _ _ _ (s₁.setTop (mkF m 175 #[.val (.ref a), .val (.int i), .val (.int to), .val (.int ((B i) &&& (255 : Int32))), .val (.int (2 : Int32)), .val (.int (128 : Int32)), .val (.int (191 : Int32)), .unset, .unset] [(.int i), (.ref a)]))
          refine Gl.go ?_ (fun t k => XS.iconst X0.here hx rfl (hb hby d1_175) k)
          show Gl _ _ _ _ (s₁.setTop (mkF m 176 #[.val (.ref a), .val (.int i), .val (.int to), .val (.int ((B i) &&& (255 : Int32))), .val (.int (2 : Int32)), .val (.int (128 : Int32)), .val (.int (191 : Int32)), .unset, .unset] [(.int (1 : Int32)), (.int i), (.ref a)]))
          refine Gl.go ?_ (fun t k => XS.iadd X0.here hx rfl (hb hby d1_176) rfl k)
          show Gl _ _ _ _ (s₁.setTop (mkF m 177 #[.val (.ref a), .val (.int i), .val (.int to), .val (.int ((B i) &&& (255 : Int32))), .val (.int (2 : Int32)), .val (.int (128 : Int32)), .val (.int (191 : Int32)), .unset, .unset] [(.int (i + (1 : Int32))), (.ref a)]))
          refine Gl.go ?_ (BA.rdB hB X0 hx hZ e0 hi1.1 hi1.2 (g := (mkF m 177 #[.val (.ref a), .val (.int i), .val (.int to), .val (.int ((B i) &&& (255 : Int32))), .val (.int (2 : Int32)), .val (.int (128 : Int32)), .val (.int (191 : Int32)), .unset, .unset] [(.int (i + (1 : Int32))), (.ref a)])) rfl rfl (hb hby d1_177))
          show Gl _ _ _ _ (s₁.setTop (mkF m 178 #[.val (.ref a), .val (.int i), .val (.int to), .val (.int ((B i) &&& (255 : Int32))), .val (.int (2 : Int32)), .val (.int (128 : Int32)), .val (.int (191 : Int32)), .unset, .unset] [(.int (B (i + (1 : Int32))))]))
          refine Gl.go ?_ (fun t k => XS.sipush X0.here hx rfl (hb hby d1_178) k)
          show Gl _ _ _ _ (s₁.setTop (mkF m 181 #[.val (.ref a), .val (.int i), .val (.int to), .val (.int ((B i) &&& (255 : Int32))), .val (.int (2 : Int32)), .val (.int (128 : Int32)), .val (.int (191 : Int32)), .unset, .unset] [(.int (255 : Int32)), (.int (B (i + (1 : Int32))))]))
          refine Gl.go ?_ (fun t k => XS.iand X0.here hx rfl (hb hby d1_181) rfl k)
          show Gl _ _ _ _ (s₁.setTop (mkF m 182 #[.val (.ref a), .val (.int i), .val (.int to), .val (.int ((B i) &&& (255 : Int32))), .val (.int (2 : Int32)), .val (.int (128 : Int32)), .val (.int (191 : Int32)), .unset, .unset] [(.int ((B (i + (1 : Int32))) &&& (255 : Int32)))]))
          refine Gl.go ?_ (fun t k => XS.iload X0.here hx rfl (hb hby d1_182) rfl k)
          show Gl _ _ _ _ (s₁.setTop (mkF m 184 #[.val (.ref a), .val (.int i), .val (.int to), .val (.int ((B i) &&& (255 : Int32))), .val (.int (2 : Int32)), .val (.int (128 : Int32)), .val (.int (191 : Int32)), .unset, .unset] [(.int (191 : Int32)), (.int ((B (i + (1 : Int32))) &&& (255 : Int32)))]))
          by_cases hc67 : (191 : Int32) < ((B (i + (1 : Int32))) &&& (255 : Int32))
          · refine Gl.go ?_ (fun t k => XS.icmpYes X0.here hx rfl (pc0 := 184) (pc' := 191) rfl (hb hby d1_184) rfl (tlt hc67).2.2.1 (by decide) (by decide) k)
            show Gl _ _ _ _ (s₁.setTop (mkF m 191 #[.val (.ref a), .val (.int i), .val (.int to), .val (.int ((B i) &&& (255 : Int32))), .val (.int (2 : Int32)), .val (.int (128 : Int32)), .val (.int (191 : Int32)), .unset, .unset] []))
            refine Gl.go ?_ (fun t k => XS.iconst X0.here hx rfl (hb hby d1_191) k)
            show Gl _ _ _ _ (s₁.setTop (mkF m 192 #[.val (.ref a), .val (.int i), .val (.int to), .val (.int ((B i) &&& (255 : Int32))), .val (.int (2 : Int32)), .val (.int (128 : Int32)), .val (.int (191 : Int32)), .unset, .unset] [(.int (0 : Int32))]))
            refine Gl.go ?_ (fun t k => XS.istore X0.here hx rfl (hb hby d1_192) rfl (l' := #[.val (.ref a), .val (.int i), .val (.int to), .val (.int ((B i) &&& (255 : Int32))), .val (.int (2 : Int32)), .val (.int (128 : Int32)), .val (.int (191 : Int32)), .val (.int (0 : Int32)), .unset]) rfl k)
            show Gl _ _ _ _ (s₁.setTop (mkF m 194 #[.val (.ref a), .val (.int i), .val (.int to), .val (.int ((B i) &&& (255 : Int32))), .val (.int (2 : Int32)), .val (.int (128 : Int32)), .val (.int (191 : Int32)), .val (.int (0 : Int32)), .unset] []))
            refine Gl.go ?_ (fun t k => XS.iconst X0.here hx rfl (hb hby d1_194) k)
            show Gl _ _ _ _ (s₁.setTop (mkF m 195 #[.val (.ref a), .val (.int i), .val (.int to), .val (.int ((B i) &&& (255 : Int32))), .val (.int (2 : Int32)), .val (.int (128 : Int32)), .val (.int (191 : Int32)), .val (.int (0 : Int32)), .unset] [(.int (2 : Int32))]))
            refine Gl.go ?_ (fun t k => XS.istore X0.here hx rfl (hb hby d1_195) rfl (l' := #[.val (.ref a), .val (.int i), .val (.int to), .val (.int ((B i) &&& (255 : Int32))), .val (.int (2 : Int32)), .val (.int (128 : Int32)), .val (.int (191 : Int32)), .val (.int (0 : Int32)), .val (.int (2 : Int32))]) rfl k)
            show Gl _ _ _ _ (s₁.setTop (mkF m 197 #[.val (.ref a), .val (.int i), .val (.int to), .val (.int ((B i) &&& (255 : Int32))), .val (.int (2 : Int32)), .val (.int (128 : Int32)), .val (.int (191 : Int32)), .val (.int (0 : Int32)), .val (.int (2 : Int32))] []))
            refine Gl.go ?_ (fun t k => XS.iload X0.here hx rfl (hb hby d1_197) rfl k)
            show Gl _ _ _ _ (s₁.setTop (mkF m 199 #[.val (.ref a), .val (.int i), .val (.int to), .val (.int ((B i) &&& (255 : Int32))), .val (.int (2 : Int32)), .val (.int (128 : Int32)), .val (.int (191 : Int32)), .val (.int (0 : Int32)), .val (.int (2 : Int32))] [(.int (0 : Int32))]))
            refine Gl.go ?_ (fun t k => XS.ifYes X0.here hx rfl (pc0 := 199) (pc' := 238) rfl (hb hby d1_199) rfl ((if0 _ _).trans (teq (by decide : (0 : Int32) = (0 : Int32))).1) (by decide) (by decide) k)
            show Gl _ _ _ _ (s₁.setTop (mkF m 238 #[.val (.ref a), .val (.int i), .val (.int to), .val (.int ((B i) &&& (255 : Int32))), .val (.int (2 : Int32)), .val (.int (128 : Int32)), .val (.int (191 : Int32)), .val (.int (0 : Int32)), .val (.int (2 : Int32))] []))
            refine Gl.go ?_ (fun t k => XS.iload X0.here hx rfl (hb hby d1_238) rfl k)
            show Gl _ _ _ _ (s₁.setTop (mkF m 240 #[.val (.ref a), .val (.int i), .val (.int to), .val (.int ((B i) &&& (255 : Int32))), .val (.int (2 : Int32)), .val (.int (128 : Int32)), .val (.int (191 : Int32)), .val (.int (0 : Int32)), .val (.int (2 : Int32))] [(.int (0 : Int32))]))
            refine Gl.go ?_ (fun t k => XS.ifYes X0.here hx rfl (pc0 := 240) (pc' := 250) rfl (hb hby d1_240) rfl ((if0 _ _).trans (teq (by decide : (0 : Int32) = (0 : Int32))).1) (by decide) (by decide) k)
            show Gl _ _ _ _ (s₁.setTop (mkF m 250 #[.val (.ref a), .val (.int i), .val (.int to), .val (.int ((B i) &&& (255 : Int32))), .val (.int (2 : Int32)), .val (.int (128 : Int32)), .val (.int (191 : Int32)), .val (.int (0 : Int32)), .val (.int (2 : Int32))] []))
            refine Gl.go ?_ (fun t k => XS.iconst X0.here hx rfl (hb hby d1_250) k)
            show Gl _ _ _ _ (s₁.setTop (mkF m 251 #[.val (.ref a), .val (.int i), .val (.int to), .val (.int ((B i) &&& (255 : Int32))), .val (.int (2 : Int32)), .val (.int (128 : Int32)), .val (.int (191 : Int32)), .val (.int (0 : Int32)), .val (.int (2 : Int32))] [(.int (-1 : Int32))]))
            obtain ⟨fs, hr, hrun, hended, hW, hsame⟩ := X0.leave (v := some (.int (-1 : Int32))) (fun h => by rw [Bd.returns] at h; cases h) (BodyLoose.notSynchronized Bd)
            exact Gl.mk ⟨_, _, retI X0 hx Bd.returns (hb hby d1_251) hr, hrun, hended, _, _, rfl, ⟨congrArg (fun z => some (Value.int z)) ((if_neg hc30).trans ((if_neg hc31).trans ((if_neg hc65).trans ((if_neg hc66).trans ((if_pos hc67).trans (rfl)))))).symm, rfl, e0⟩, ⟨_, rfl⟩, hW, hsame.mono (by decide) (by decide)⟩
          · refine Gl.go ?_ (fun t k => XS.icmpNo X0.here hx rfl (hb hby d1_184) rfl (flt hc67).2.2.1 k)
            show Gl _ _ _ _ (s₁.setTop (mkF m 187 #[.val (.ref a), .val (.int i), .val (.int to), .val (.int ((B i) &&& (255 : Int32))), .val (.int (2 : Int32)), .val (.int (128 : Int32)), .val (.int (191 : Int32)), .unset, .unset] []))
            refine Gl.go ?_ (fun t k => XS.iconst X0.here hx rfl (hb hby d1_187) k)
            show Gl _ _ _ _ (s₁.setTop (mkF m 188 #[.val (.ref a), .val (.int i), .val (.int to), .val (.int ((B i) &&& (255 : Int32))), .val (.int (2 : Int32)), .val (.int (128 : Int32)), .val (.int (191 : Int32)), .unset, .unset] [(.int (1 : Int32))]))
            refine Gl.go ?_ (fun t k => XS.goto X0.here hx rfl (pc0 := 188) (pc' := 192) rfl (hb hby d1_188) (by decide) (by decide) k)
            show Gl _ _ _ _ (s₁.setTop (mkF m 192 #[.val (.ref a), .val (.int i), .val (.int to), .val (.int ((B i) &&& (255 : Int32))), .val (.int (2 : Int32)), .val (.int (128 : Int32)), .val (.int (191 : Int32)), .unset, .unset] [(.int (1 : Int32))]))
            refine Gl.go ?_ (fun t k => XS.istore X0.here hx rfl (hb hby d1_192) rfl (l' := #[.val (.ref a), .val (.int i), .val (.int to), .val (.int ((B i) &&& (255 : Int32))), .val (.int (2 : Int32)), .val (.int (128 : Int32)), .val (.int (191 : Int32)), .val (.int (1 : Int32)), .unset]) rfl k)
            show Gl _ _ _ _ (s₁.setTop (mkF m 194 #[.val (.ref a), .val (.int i), .val (.int to), .val (.int ((B i) &&& (255 : Int32))), .val (.int (2 : Int32)), .val (.int (128 : Int32)), .val (.int (191 : Int32)), .val (.int (1 : Int32)), .unset] []))
            refine Gl.go ?_ (fun t k => XS.iconst X0.here hx rfl (hb hby d1_194) k)
            show Gl _ _ _ _ (s₁.setTop (mkF m 195 #[.val (.ref a), .val (.int i), .val (.int to), .val (.int ((B i) &&& (255 : Int32))), .val (.int (2 : Int32)), .val (.int (128 : Int32)), .val (.int (191 : Int32)), .val (.int (1 : Int32)), .unset] [(.int (2 : Int32))]))
            refine Gl.go ?_ (fun t k => XS.istore X0.here hx rfl (hb hby d1_195) rfl (l' := #[.val (.ref a), .val (.int i), .val (.int to), .val (.int ((B i) &&& (255 : Int32))), .val (.int (2 : Int32)), .val (.int (128 : Int32)), .val (.int (191 : Int32)), .val (.int (1 : Int32)), .val (.int (2 : Int32))]) rfl k)
            show Gl _ _ _ _ (s₁.setTop (mkF m 197 #[.val (.ref a), .val (.int i), .val (.int to), .val (.int ((B i) &&& (255 : Int32))), .val (.int (2 : Int32)), .val (.int (128 : Int32)), .val (.int (191 : Int32)), .val (.int (1 : Int32)), .val (.int (2 : Int32))] []))
            refine Gl.go ?_ (fun t k => XS.iload X0.here hx rfl (hb hby d1_197) rfl k)
            show Gl _ _ _ _ (s₁.setTop (mkF m 199 #[.val (.ref a), .val (.int i), .val (.int to), .val (.int ((B i) &&& (255 : Int32))), .val (.int (2 : Int32)), .val (.int (128 : Int32)), .val (.int (191 : Int32)), .val (.int (1 : Int32)), .val (.int (2 : Int32))] [(.int (1 : Int32))]))
            refine Gl.go ?_ (fun t k => XS.ifNo X0.here hx rfl (hb hby d1_199) rfl ((if0 _ _).trans (feq (by decide : ¬ ((1 : Int32) = (0 : Int32)))).1) k)
            show Gl _ _ _ _ (s₁.setTop (mkF m 202 #[.val (.ref a), .val (.int i), .val (.int to), .val (.int ((B i) &&& (255 : Int32))), .val (.int (2 : Int32)), .val (.int (128 : Int32)), .val (.int (191 : Int32)), .val (.int (1 : Int32)), .val (.int (2 : Int32))] []))
            refine Gl.go ?_ (fun t k => XS.iload X0.here hx rfl (hb hby d1_202) rfl k)
            show Gl _ _ _ _ (s₁.setTop (mkF m 204 #[.val (.ref a), .val (.int i), .val (.int to), .val (.int ((B i) &&& (255 : Int32))), .val (.int (2 : Int32)), .val (.int (128 : Int32)), .val (.int (191 : Int32)), .val (.int (1 : Int32)), .val (.int (2 : Int32))] [(.int (2 : Int32))]))
            refine Gl.go ?_ (fun t k => XS.iload X0.here hx rfl (hb hby d1_204) rfl k)
            show Gl _ _ _ _ (s₁.setTop (mkF m 206 #[.val (.ref a), .val (.int i), .val (.int to), .val (.int ((B i) &&& (255 : Int32))), .val (.int (2 : Int32)), .val (.int (128 : Int32)), .val (.int (191 : Int32)), .val (.int (1 : Int32)), .val (.int (2 : Int32))] [(.int (2 : Int32)), (.int (2 : Int32))]))
            refine Gl.go ?_ (fun t k => XS.icmpYes X0.here hx rfl (pc0 := 206) (pc' := 238) rfl (hb hby d1_206) rfl (flt (by decide : ¬ ((2 : Int32) < (2 : Int32)))).2.1 (by decide) (by decide) k)
            show Gl _ _ _ _ (s₁.setTop (mkF m 238 #[.val (.ref a), .val (.int i), .val (.int to), .val (.int ((B i) &&& (255 : Int32))), .val (.int (2 : Int32)), .val (.int (128 : Int32)), .val (.int (191 : Int32)), .val (.int (1 : Int32)), .val (.int (2 : Int32))] []))
            refine Gl.go ?_ (fun t k => XS.iload X0.here hx rfl (hb hby d1_238) rfl k)
            show Gl _ _ _ _ (s₁.setTop (mkF m 240 #[.val (.ref a), .val (.int i), .val (.int to), .val (.int ((B i) &&& (255 : Int32))), .val (.int (2 : Int32)), .val (.int (128 : Int32)), .val (.int (191 : Int32)), .val (.int (1 : Int32)), .val (.int (2 : Int32))] [(.int (1 : Int32))]))
            refine Gl.go ?_ (fun t k => XS.ifNo X0.here hx rfl (hb hby d1_240) rfl ((if0 _ _).trans (feq (by decide : ¬ ((1 : Int32) = (0 : Int32)))).1) k)
            show Gl _ _ _ _ (s₁.setTop (mkF m 243 #[.val (.ref a), .val (.int i), .val (.int to), .val (.int ((B i) &&& (255 : Int32))), .val (.int (2 : Int32)), .val (.int (128 : Int32)), .val (.int (191 : Int32)), .val (.int (1 : Int32)), .val (.int (2 : Int32))] []))
            refine Gl.go ?_ (fun t k => XS.iloadN X0.here hx rfl (hb hby d1_243) rfl k)
            show Gl _ _ _ _ (s₁.setTop (mkF m 244 #[.val (.ref a), .val (.int i), .val (.int to), .val (.int ((B i) &&& (255 : Int32))), .val (.int (2 : Int32)), .val (.int (128 : Int32)), .val (.int (191 : Int32)), .val (.int (1 : Int32)), .val (.int (2 : Int32))] [(.int i)]))
            refine Gl.go ?_ (fun t k => XS.iload X0.here hx rfl (hb hby d1_244) rfl k)
            show Gl _ _ _ _ (s₁.setTop (mkF m 246 #[.val (.ref a), .val (.int i), .val (.int to), .val (.int ((B i) &&& (255 : Int32))), .val (.int (2 : Int32)), .val (.int (128 : Int32)), .val (.int (191 : Int32)), .val (.int (1 : Int32)), .val (.int (2 : Int32))] [(.int (2 : Int32)), (.int i)]))
            refine Gl.go ?_ (fun t k => XS.iadd X0.here hx rfl (hb hby d1_246) rfl k)
            show Gl _ _ _ _ (s₁.setTop (mkF m 247 #[.val (.ref a), .val (.int i), .val (.int to), .val (.int ((B i) &&& (255 : Int32))), .val (.int (2 : Int32)), .val (.int (128 : Int32)), .val (.int (191 : Int32)), .val (.int (1 : Int32)), .val (.int (2 : Int32))] [(.int (i + (2 : Int32)))]))
            refine Gl.go ?_ (fun t k => XS.goto X0.here hx rfl (pc0 := 247) (pc' := 251) rfl (hb hby d1_247) (by decide) (by decide) k)
            show Gl _ _ _ _ (s₁.setTop (mkF m 251 #[.val (.ref a), .val (.int i), .val (.int to), .val (.int ((B i) &&& (255 : Int32))), .val (.int (2 : Int32)), .val (.int (128 : Int32)), .val (.int (191 : Int32)), .val (.int (1 : Int32)), .val (.int (2 : Int32))] [(.int (i + (2 : Int32)))]))
            obtain ⟨fs, hr, hrun, hended, hW, hsame⟩ := X0.leave (v := some (.int (i + (2 : Int32)))) (fun h => by rw [Bd.returns] at h; cases h) (BodyLoose.notSynchronized Bd)
            exact Gl.mk ⟨_, _, retI X0 hx Bd.returns (hb hby d1_251) hr, hrun, hended, _, _, rfl, ⟨congrArg (fun z => some (Value.int z)) ((if_neg hc30).trans ((if_neg hc31).trans ((if_neg hc65).trans ((if_neg hc66).trans ((if_neg hc67).trans (rfl)))))).symm, rfl, e0⟩, ⟨_, rfl⟩, hW, hsame.mono (by decide) (by decide)⟩
theorem own_n01 {x : Int32} (h : x = 1) : ¬ x = 0 := by rw [h]; decide
theorem pn_0 : plainName "com/example/litera/litera/Utf8SequenceEndPinLaw" = true := by first | (simp [plainName, overriddenIn]; done) | decide +kernel
theorem pd_1 : parseMethodDescriptor "([BII)I" = some ⟨[(.array .byte), .int, .int], some .int⟩ := by decide +kernel
theorem pd_2 : parseMethodDescriptor "(IIIIII)I" = some ⟨[.int, .int, .int, .int, .int, .int], some .int⟩ := by decide +kernel
def own_bs0 (u0 u1 u2 u3 u4 : Int32) : Int32 → Int32 := nth [(nar .byte (((128 : Int32) ||| (u0 &&& (127 : Int32))).toInt8.toInt32)), (nar .byte (u1.toInt8.toInt32)), (nar .byte (u2.toInt8.toInt32)), (nar .byte (u3.toInt8.toInt32)), (0 : Int32), (nar .byte (((u4.toUInt32 >>> ((16 : Int32) &&& 31).toUInt32).toInt32).toInt8.toInt32))]
def own_bs1 (u0 u1 u2 u3 u4 : Int32) : Int32 → Int32 := nth [(nar .byte (((u4.toUInt32 >>> ((8 : Int32) &&& 31).toUInt32).toInt32).toInt8.toInt32)), (nar .byte (((128 : Int32) ||| (u0 &&& (127 : Int32))).toInt8.toInt32)), (nar .byte (u1.toInt8.toInt32)), (nar .byte (u2.toInt8.toInt32)), (nar .byte (u3.toInt8.toInt32)), (nar .byte (((u4.toUInt32 >>> ((16 : Int32) &&& 31).toUInt32).toInt32).toInt8.toInt32))]
def f_law (u0 u1 u2 u3 u4 u5 : Int32) : Int32 := (if (u4 &&& (1 : Int32)) = (0 : Int32) then (if (f_seq (0 : Int32) ((0 : Int32) + ((u5 &&& (2147483647 : Int32)) % (6 : Int32))) (own_bs0 u0 u1 u2 u3 u4)) = (f_exp ((128 : Int32) ||| (u0 &&& (127 : Int32))) (u1 &&& (255 : Int32)) (u2 &&& (255 : Int32)) (u3 &&& (255 : Int32)) (0 : Int32) ((0 : Int32) + ((u5 &&& (2147483647 : Int32)) % (6 : Int32)))) then (1 : Int32) else (0 : Int32)) else (if (f_seq (1 : Int32) ((1 : Int32) + ((u5 &&& (2147483647 : Int32)) % (6 : Int32))) (own_bs1 u0 u1 u2 u3 u4)) = (f_exp ((128 : Int32) ||| (u0 &&& (127 : Int32))) (u1 &&& (255 : Int32)) (u2 &&& (255 : Int32)) (u3 &&& (255 : Int32)) (1 : Int32) ((1 : Int32) + ((u5 &&& (2147483647 : Int32)) % (6 : Int32)))) then (1 : Int32) else (0 : Int32)))
theorem ef_rm0 (m : MethodId) (x0 : Int32) (x1 : Int32) (x2 : Int32) (x3 : Int32) (x4 : Int32) (x5 : Int32) : entryFrame m #[(.int x0), (.int x1), (.int x2), (.int x3), (.int x4), (.int x5)] maxLocals = mkF m 0 #[.val (.int x0), .val (.int x1), .val (.int x2), .val (.int x3), .val (.int x4), .val (.int x5), .unset, .unset, .unset, .unset, .unset] [] := by first | (simp [entryFrame, mkF, argsToLocals, Value.category, maxLocals]; done) | rfl
set_option maxRecDepth 65536 in
set_option maxHeartbeats 40000000 in
theorem rm0 (l : Launch) (Z : State) (a0 : Array Value) (hw : ∀ d ∈ tables_1, d.before a0 Z = true) (ws : List Jvm.Cond) (u0 : Int32) (u1 : Int32) (u2 : Int32) (u3 : Int32) (u4 : Int32) (u5 : Int32)  (h0 : Heap) (n0 : Nat) (Z0 : n0 ≤ h0.size) (hi01 : (u4 &&& (1 : Int32)) = 0 ∨ (u4 &&& (1 : Int32)) = 1) :
    MetFree l x (head1 (Jvm.Cond.code x code maxLocals ret :: ws) room_1) (fun aQ U => aQ = #[(.int u0), (.int u1), (.int u2), (.int u3), (.int u4), (.int u5)] ∧ Z.Warmed39 U.vm ∧ U.heap = h0) (fun _ _ _ _ _ => True) (fun _ U o U' => ∃ vQ LQ, o = .returned vQ ∧ (vQ = some (.int (f_law u0 u1 u2 u3 u4 u5)) ∧ Fr n0 LQ) ∧ FrameEnd U o U' LQ room_1.cells room_1.slots) := by
  refine MetFree.of_bodySF (plainFor_of_name pn_0) hisR ?_
  intro p e s m args below meth c s₁ Bd hml0 hP hK
  obtain ⟨rfl, hZ, hh⟩ := hP
  have hx := Bd.exec
  have hby := Bd.bytes
  have hml : c.maxLocals = 11 := hml0
  have hown : s.vm.findClass "com/example/litera/litera/Utf8SequenceEndPinLaw" = some m.cls := findClass_of_methodNamed Bd.named
  have hnm := (name_of_methodNamed Bd.named Bd.method).1
  have X0 : Stand p l e room_1 s m #[(.int u0), (.int u1), (.int u2), (.int u3), (.int u4), (.int u5)] below meth c s₁ [] 0 0 := Stand.of_body Bd
  have e0 : s₁.heap = h0 := by rw [← hh, Bd.state]; rfl
  have NF := Fr.nil n0
  refine Gl.out ?_
  refine Gl.go ?_ (fun t k => castTop (ef_rm0 m u0 u1 u2 u3 u4 u5) k)
  show Gl _ _ _ _ (s₁.setTop (mkF m 0 #[.val (.int u0), .val (.int u1), .val (.int u2), .val (.int u3), .val (.int u4), .val (.int u5), .unset, .unset, .unset, .unset, .unset] []))
  refine Gl.go ?_ (fun t k => XS.iload X0.here hx rfl (hb hby at_0) rfl k)
  show Gl _ _ _ _ (s₁.setTop (mkF m 2 #[.val (.int u0), .val (.int u1), .val (.int u2), .val (.int u3), .val (.int u4), .val (.int u5), .unset, .unset, .unset, .unset, .unset] [(.int u4)]))
  refine Gl.go ?_ (fun t k => XS.iconst X0.here hx rfl (hb hby at_2) k)
  show Gl _ _ _ _ (s₁.setTop (mkF m 3 #[.val (.int u0), .val (.int u1), .val (.int u2), .val (.int u3), .val (.int u4), .val (.int u5), .unset, .unset, .unset, .unset, .unset] [(.int (1 : Int32)), (.int u4)]))
  refine Gl.go ?_ (fun t k => XS.iand X0.here hx rfl (hb hby at_3) rfl k)
  show Gl _ _ _ _ (s₁.setTop (mkF m 4 #[.val (.int u0), .val (.int u1), .val (.int u2), .val (.int u3), .val (.int u4), .val (.int u5), .unset, .unset, .unset, .unset, .unset] [(.int (u4 &&& (1 : Int32)))]))
  rcases hi01 with hi | hi
  · rw [hi]
    show Gl _ _ _ _ (s₁.setTop (mkF m 4 #[.val (.int u0), .val (.int u1), .val (.int u2), .val (.int u3), .val (.int u4), .val (.int u5), .unset, .unset, .unset, .unset, .unset] [(.int (0 : Int32))]))
    refine Gl.go ?_ (fun t k => XS.istore X0.here hx rfl (hb hby at_4) rfl (l' := #[.val (.int u0), .val (.int u1), .val (.int u2), .val (.int u3), .val (.int u4), .val (.int u5), .val (.int (0 : Int32)), .unset, .unset, .unset, .unset]) rfl k)
    show Gl _ _ _ _ (s₁.setTop (mkF m 6 #[.val (.int u0), .val (.int u1), .val (.int u2), .val (.int u3), .val (.int u4), .val (.int u5), .val (.int (0 : Int32)), .unset, .unset, .unset, .unset] []))
    refine Gl.go ?_ (fun t k => XS.iload X0.here hx rfl (hb hby at_6) rfl k)
    show Gl _ _ _ _ (s₁.setTop (mkF m 8 #[.val (.int u0), .val (.int u1), .val (.int u2), .val (.int u3), .val (.int u4), .val (.int u5), .val (.int (0 : Int32)), .unset, .unset, .unset, .unset] [(.int (0 : Int32))]))
    refine Gl.go ?_ (fun t k => XS.iload X0.here hx rfl (hb hby at_8) rfl k)
    show Gl _ _ _ _ (s₁.setTop (mkF m 10 #[.val (.int u0), .val (.int u1), .val (.int u2), .val (.int u3), .val (.int u4), .val (.int u5), .val (.int (0 : Int32)), .unset, .unset, .unset, .unset] [(.int u5), (.int (0 : Int32))]))
    refine Gl.go ?_ (X0.ldcInt hx hown (mvT hZ (hw _ (List.mem_of_getElem? (i := 0) rfl))) (g := (mkF m 10 #[.val (.int u0), .val (.int u1), .val (.int u2), .val (.int u3), .val (.int u4), .val (.int u5), .val (.int (0 : Int32)), .unset, .unset, .unset, .unset] [(.int u5), (.int (0 : Int32))])) rfl (hb hby at_10))
    show Gl _ _ _ _ (s₁.setTop (mkF m 12 #[.val (.int u0), .val (.int u1), .val (.int u2), .val (.int u3), .val (.int u4), .val (.int u5), .val (.int (0 : Int32)), .unset, .unset, .unset, .unset] [(.int (2147483647 : Int32)), (.int u5), (.int (0 : Int32))]))
    refine Gl.go ?_ (fun t k => XS.iand X0.here hx rfl (hb hby at_12) rfl k)
    show Gl _ _ _ _ (s₁.setTop (mkF m 13 #[.val (.int u0), .val (.int u1), .val (.int u2), .val (.int u3), .val (.int u4), .val (.int u5), .val (.int (0 : Int32)), .unset, .unset, .unset, .unset] [(.int (u5 &&& (2147483647 : Int32))), (.int (0 : Int32))]))
    refine Gl.go ?_ (fun t k => XS.bipush X0.here hx rfl (hb hby at_13) k)
    show Gl _ _ _ _ (s₁.setTop (mkF m 15 #[.val (.int u0), .val (.int u1), .val (.int u2), .val (.int u3), .val (.int u4), .val (.int u5), .val (.int (0 : Int32)), .unset, .unset, .unset, .unset] [(.int (6 : Int32)), (.int (u5 &&& (2147483647 : Int32))), (.int (0 : Int32))]))
    refine Gl.go ?_ (fun t k => iremM X0 hx rfl (hb hby at_15) rfl (by decide) k)
    show Gl _ _ _ _ (s₁.setTop (mkF m 16 #[.val (.int u0), .val (.int u1), .val (.int u2), .val (.int u3), .val (.int u4), .val (.int u5), .val (.int (0 : Int32)), .unset, .unset, .unset, .unset] [(.int ((u5 &&& (2147483647 : Int32)) % (6 : Int32))), (.int (0 : Int32))]))
    refine Gl.go ?_ (fun t k => XS.iadd X0.here hx rfl (hb hby at_16) rfl k)
    show Gl _ _ _ _ (s₁.setTop (mkF m 17 #[.val (.int u0), .val (.int u1), .val (.int u2), .val (.int u3), .val (.int u4), .val (.int u5), .val (.int (0 : Int32)), .unset, .unset, .unset, .unset] [(.int ((0 : Int32) + ((u5 &&& (2147483647 : Int32)) % (6 : Int32))))]))
    refine Gl.go ?_ (fun t k => XS.istore X0.here hx rfl (hb hby at_17) rfl (l' := #[.val (.int u0), .val (.int u1), .val (.int u2), .val (.int u3), .val (.int u4), .val (.int u5), .val (.int (0 : Int32)), .val (.int ((0 : Int32) + ((u5 &&& (2147483647 : Int32)) % (6 : Int32)))), .unset, .unset, .unset]) rfl k)
    show Gl _ _ _ _ (s₁.setTop (mkF m 19 #[.val (.int u0), .val (.int u1), .val (.int u2), .val (.int u3), .val (.int u4), .val (.int u5), .val (.int (0 : Int32)), .val (.int ((0 : Int32) + ((u5 &&& (2147483647 : Int32)) % (6 : Int32)))), .unset, .unset, .unset] []))
    refine Gl.go ?_ (fun t k => XS.sipush X0.here hx rfl (hb hby at_19) k)
    show Gl _ _ _ _ (s₁.setTop (mkF m 22 #[.val (.int u0), .val (.int u1), .val (.int u2), .val (.int u3), .val (.int u4), .val (.int u5), .val (.int (0 : Int32)), .val (.int ((0 : Int32) + ((u5 &&& (2147483647 : Int32)) % (6 : Int32)))), .unset, .unset, .unset] [(.int (128 : Int32))]))
    refine Gl.go ?_ (fun t k => XS.iloadN X0.here hx rfl (hb hby at_22) rfl k)
    show Gl _ _ _ _ (s₁.setTop (mkF m 23 #[.val (.int u0), .val (.int u1), .val (.int u2), .val (.int u3), .val (.int u4), .val (.int u5), .val (.int (0 : Int32)), .val (.int ((0 : Int32) + ((u5 &&& (2147483647 : Int32)) % (6 : Int32)))), .unset, .unset, .unset] [(.int u0), (.int (128 : Int32))]))
    refine Gl.go ?_ (fun t k => XS.bipush X0.here hx rfl (hb hby at_23) k)
    show Gl _ _ _ _ (s₁.setTop (mkF m 25 #[.val (.int u0), .val (.int u1), .val (.int u2), .val (.int u3), .val (.int u4), .val (.int u5), .val (.int (0 : Int32)), .val (.int ((0 : Int32) + ((u5 &&& (2147483647 : Int32)) % (6 : Int32)))), .unset, .unset, .unset] [(.int (127 : Int32)), (.int u0), (.int (128 : Int32))]))
    refine Gl.go ?_ (fun t k => XS.iand X0.here hx rfl (hb hby at_25) rfl k)
    show Gl _ _ _ _ (s₁.setTop (mkF m 26 #[.val (.int u0), .val (.int u1), .val (.int u2), .val (.int u3), .val (.int u4), .val (.int u5), .val (.int (0 : Int32)), .val (.int ((0 : Int32) + ((u5 &&& (2147483647 : Int32)) % (6 : Int32)))), .unset, .unset, .unset] [(.int (u0 &&& (127 : Int32))), (.int (128 : Int32))]))
    refine Gl.go ?_ (fun t k => XS.ior X0.here hx rfl (hb hby at_26) rfl k)
    show Gl _ _ _ _ (s₁.setTop (mkF m 27 #[.val (.int u0), .val (.int u1), .val (.int u2), .val (.int u3), .val (.int u4), .val (.int u5), .val (.int (0 : Int32)), .val (.int ((0 : Int32) + ((u5 &&& (2147483647 : Int32)) % (6 : Int32)))), .unset, .unset, .unset] [(.int ((128 : Int32) ||| (u0 &&& (127 : Int32))))]))
    refine Gl.go ?_ (fun t k => XS.istore X0.here hx rfl (hb hby at_27) rfl (l' := #[.val (.int u0), .val (.int u1), .val (.int u2), .val (.int u3), .val (.int u4), .val (.int u5), .val (.int (0 : Int32)), .val (.int ((0 : Int32) + ((u5 &&& (2147483647 : Int32)) % (6 : Int32)))), .val (.int ((128 : Int32) ||| (u0 &&& (127 : Int32)))), .unset, .unset]) rfl k)
    show Gl _ _ _ _ (s₁.setTop (mkF m 29 #[.val (.int u0), .val (.int u1), .val (.int u2), .val (.int u3), .val (.int u4), .val (.int u5), .val (.int (0 : Int32)), .val (.int ((0 : Int32) + ((u5 &&& (2147483647 : Int32)) % (6 : Int32)))), .val (.int ((128 : Int32) ||| (u0 &&& (127 : Int32)))), .unset, .unset] []))
    refine Gl.go ?_ (fun t k => XS.bipush X0.here hx rfl (hb hby at_29) k)
    show Gl _ _ _ _ (s₁.setTop (mkF m 31 #[.val (.int u0), .val (.int u1), .val (.int u2), .val (.int u3), .val (.int u4), .val (.int u5), .val (.int (0 : Int32)), .val (.int ((0 : Int32) + ((u5 &&& (2147483647 : Int32)) % (6 : Int32)))), .val (.int ((128 : Int32) ||| (u0 &&& (127 : Int32)))), .unset, .unset] [(.int (6 : Int32))]))
    obtain ⟨T68, h68, k68, X68, e68, E68, A68, st68⟩ := newP X0 hx hZ (hw _ (List.mem_of_getElem? (i := 1) rfl)) e0 (g := (mkF m 31 #[.val (.int u0), .val (.int u1), .val (.int u2), .val (.int u3), .val (.int u4), .val (.int u5), .val (.int (0 : Int32)), .val (.int ((0 : Int32) + ((u5 &&& (2147483647 : Int32)) % (6 : Int32)))), .val (.int ((128 : Int32) ||| (u0 &&& (127 : Int32)))), .unset, .unset] [(.int (6 : Int32))])) rfl (hb hby at_31) rfl (by decide) (cap := 6) (by decide) (by decide) (by decide) (by decide)
    obtain ⟨b68, g68⟩ : ∃ z, z = h0.size := ⟨_, rfl⟩
    rw [← g68] at A68 st68
    have g_b68 : n0 ≤ b68 := Nat.le_trans Z0 (Nat.le_of_eq g68.symm)
    have Z0 := Nat.le_trans Z0 E68.1
    have V_b68 : Arv Z h68 b68 k68 .byte (6 : Int32) [(.int (0 : Int32)), (.int (0 : Int32)), (.int (0 : Int32)), (.int (0 : Int32)), (.int (0 : Int32)), (.int (0 : Int32))] (.int (0 : Int32)) := (Arv.new A68 (by decide)).pad (pad_rep [] (.int (0 : Int32)) 6)
    refine Gl.go ?_ st68
    show Gl _ _ _ _ (T68.setTop (mkF m 33 #[.val (.int u0), .val (.int u1), .val (.int u2), .val (.int u3), .val (.int u4), .val (.int u5), .val (.int (0 : Int32)), .val (.int ((0 : Int32) + ((u5 &&& (2147483647 : Int32)) % (6 : Int32)))), .val (.int ((128 : Int32) ||| (u0 &&& (127 : Int32)))), .unset, .unset] [(.ref b68)]))
    refine Gl.go ?_ (fun t k => XS.astore X68.here hx rfl (hb hby at_33) rfl rfl (l' := #[.val (.int u0), .val (.int u1), .val (.int u2), .val (.int u3), .val (.int u4), .val (.int u5), .val (.int (0 : Int32)), .val (.int ((0 : Int32) + ((u5 &&& (2147483647 : Int32)) % (6 : Int32)))), .val (.int ((128 : Int32) ||| (u0 &&& (127 : Int32)))), .val (.ref b68), .unset]) rfl k)
    show Gl _ _ _ _ (T68.setTop (mkF m 35 #[.val (.int u0), .val (.int u1), .val (.int u2), .val (.int u3), .val (.int u4), .val (.int u5), .val (.int (0 : Int32)), .val (.int ((0 : Int32) + ((u5 &&& (2147483647 : Int32)) % (6 : Int32)))), .val (.int ((128 : Int32) ||| (u0 &&& (127 : Int32)))), .val (.ref b68), .unset] []))
    refine Gl.go ?_ (fun t k => XS.aload X68.here hx rfl (hb hby at_35) rfl rfl k)
    show Gl _ _ _ _ (T68.setTop (mkF m 37 #[.val (.int u0), .val (.int u1), .val (.int u2), .val (.int u3), .val (.int u4), .val (.int u5), .val (.int (0 : Int32)), .val (.int ((0 : Int32) + ((u5 &&& (2147483647 : Int32)) % (6 : Int32)))), .val (.int ((128 : Int32) ||| (u0 &&& (127 : Int32)))), .val (.ref b68), .unset] [(.ref b68)]))
    refine Gl.go ?_ (fun t k => XS.iconst X68.here hx rfl (hb hby at_37) k)
    show Gl _ _ _ _ (T68.setTop (mkF m 38 #[.val (.int u0), .val (.int u1), .val (.int u2), .val (.int u3), .val (.int u4), .val (.int u5), .val (.int (0 : Int32)), .val (.int ((0 : Int32) + ((u5 &&& (2147483647 : Int32)) % (6 : Int32)))), .val (.int ((128 : Int32) ||| (u0 &&& (127 : Int32)))), .val (.ref b68), .unset] [(.int (0 : Int32)), (.ref b68)]))
    refine Gl.go ?_ (fun t k => XS.iload X68.here hx rfl (hb hby at_38) rfl k)
    show Gl _ _ _ _ (T68.setTop (mkF m 40 #[.val (.int u0), .val (.int u1), .val (.int u2), .val (.int u3), .val (.int u4), .val (.int u5), .val (.int (0 : Int32)), .val (.int ((0 : Int32) + ((u5 &&& (2147483647 : Int32)) % (6 : Int32)))), .val (.int ((128 : Int32) ||| (u0 &&& (127 : Int32)))), .val (.ref b68), .unset] [(.int u4), (.int (0 : Int32)), (.ref b68)]))
    refine Gl.go ?_ (fun t k => XS.bipush X68.here hx rfl (hb hby at_40) k)
    show Gl _ _ _ _ (T68.setTop (mkF m 42 #[.val (.int u0), .val (.int u1), .val (.int u2), .val (.int u3), .val (.int u4), .val (.int u5), .val (.int (0 : Int32)), .val (.int ((0 : Int32) + ((u5 &&& (2147483647 : Int32)) % (6 : Int32)))), .val (.int ((128 : Int32) ||| (u0 &&& (127 : Int32)))), .val (.ref b68), .unset] [(.int (8 : Int32)), (.int u4), (.int (0 : Int32)), (.ref b68)]))
    refine Gl.go ?_ (fun t k => XS.iushr X68.here hx rfl (hb hby at_42) rfl k)
    show Gl _ _ _ _ (T68.setTop (mkF m 43 #[.val (.int u0), .val (.int u1), .val (.int u2), .val (.int u3), .val (.int u4), .val (.int u5), .val (.int (0 : Int32)), .val (.int ((0 : Int32) + ((u5 &&& (2147483647 : Int32)) % (6 : Int32)))), .val (.int ((128 : Int32) ||| (u0 &&& (127 : Int32)))), .val (.ref b68), .unset] [(.int ((u4.toUInt32 >>> ((8 : Int32) &&& 31).toUInt32).toInt32)), (.int (0 : Int32)), (.ref b68)]))
    refine Gl.go ?_ (fun t k => XS.i2b X68.here hx rfl (hb hby at_43) rfl k)
    show Gl _ _ _ _ (T68.setTop (mkF m 44 #[.val (.int u0), .val (.int u1), .val (.int u2), .val (.int u3), .val (.int u4), .val (.int u5), .val (.int (0 : Int32)), .val (.int ((0 : Int32) + ((u5 &&& (2147483647 : Int32)) % (6 : Int32)))), .val (.int ((128 : Int32) ||| (u0 &&& (127 : Int32)))), .val (.ref b68), .unset] [(.int (((u4.toUInt32 >>> ((8 : Int32) &&& 31).toUInt32).toInt32).toInt8.toInt32)), (.int (0 : Int32)), (.ref b68)]))
    obtain ⟨cl69, Ar69, q69, S69, N69, Hh69, G69⟩ := V_b68
    obtain ⟨T69, h69, X69, e69, W69, st69⟩ := stB X68 hx hZ e68 Ar69 (j := (0 : Int32)) (inb_of S69 ⟨by decide, by decide⟩) (g := (mkF m 44 #[.val (.int u0), .val (.int u1), .val (.int u2), .val (.int u3), .val (.int u4), .val (.int u5), .val (.int (0 : Int32)), .val (.int ((0 : Int32) + ((u5 &&& (2147483647 : Int32)) % (6 : Int32)))), .val (.int ((128 : Int32) ||| (u0 &&& (127 : Int32)))), .val (.ref b68), .unset] [(.int (((u4.toUInt32 >>> ((8 : Int32) &&& 31).toUInt32).toInt32).toInt8.toInt32)), (.int (0 : Int32)), (.ref b68)])) rfl rfl (hb hby at_44)
    have Z0 := Nat.le_trans Z0 (Keep.of_wr W69).1
    have V_b68 : Arv Z h69 b68 k68 .byte (6 : Int32) [(.int (nar .byte (((u4.toUInt32 >>> ((8 : Int32) &&& 31).toUInt32).toInt32).toInt8.toInt32))), (.int (0 : Int32)), (.int (0 : Int32)), (.int (0 : Int32)), (.int (0 : Int32)), (.int (0 : Int32))] (.int (0 : Int32)) := Arv.set Ar69 q69 S69 N69 Hh69 G69 (fits_nar_byte _) W69 0 rfl (Nat.le_of_ble_eq_true rfl)
    have NF := Fr.snoc X69 NF g_b68
    refine Gl.go ?_ st69
    show Gl _ _ _ _ (T69.setTop (mkF m 45 #[.val (.int u0), .val (.int u1), .val (.int u2), .val (.int u3), .val (.int u4), .val (.int u5), .val (.int (0 : Int32)), .val (.int ((0 : Int32) + ((u5 &&& (2147483647 : Int32)) % (6 : Int32)))), .val (.int ((128 : Int32) ||| (u0 &&& (127 : Int32)))), .val (.ref b68), .unset] []))
    refine Gl.go ?_ (fun t k => XS.aload X69.here hx rfl (hb hby at_45) rfl rfl k)
    show Gl _ _ _ _ (T69.setTop (mkF m 47 #[.val (.int u0), .val (.int u1), .val (.int u2), .val (.int u3), .val (.int u4), .val (.int u5), .val (.int (0 : Int32)), .val (.int ((0 : Int32) + ((u5 &&& (2147483647 : Int32)) % (6 : Int32)))), .val (.int ((128 : Int32) ||| (u0 &&& (127 : Int32)))), .val (.ref b68), .unset] [(.ref b68)]))
    refine Gl.go ?_ (fun t k => XS.iconst X69.here hx rfl (hb hby at_47) k)
    show Gl _ _ _ _ (T69.setTop (mkF m 48 #[.val (.int u0), .val (.int u1), .val (.int u2), .val (.int u3), .val (.int u4), .val (.int u5), .val (.int (0 : Int32)), .val (.int ((0 : Int32) + ((u5 &&& (2147483647 : Int32)) % (6 : Int32)))), .val (.int ((128 : Int32) ||| (u0 &&& (127 : Int32)))), .val (.ref b68), .unset] [(.int (5 : Int32)), (.ref b68)]))
    refine Gl.go ?_ (fun t k => XS.iload X69.here hx rfl (hb hby at_48) rfl k)
    show Gl _ _ _ _ (T69.setTop (mkF m 50 #[.val (.int u0), .val (.int u1), .val (.int u2), .val (.int u3), .val (.int u4), .val (.int u5), .val (.int (0 : Int32)), .val (.int ((0 : Int32) + ((u5 &&& (2147483647 : Int32)) % (6 : Int32)))), .val (.int ((128 : Int32) ||| (u0 &&& (127 : Int32)))), .val (.ref b68), .unset] [(.int u4), (.int (5 : Int32)), (.ref b68)]))
    refine Gl.go ?_ (fun t k => XS.bipush X69.here hx rfl (hb hby at_50) k)
    show Gl _ _ _ _ (T69.setTop (mkF m 52 #[.val (.int u0), .val (.int u1), .val (.int u2), .val (.int u3), .val (.int u4), .val (.int u5), .val (.int (0 : Int32)), .val (.int ((0 : Int32) + ((u5 &&& (2147483647 : Int32)) % (6 : Int32)))), .val (.int ((128 : Int32) ||| (u0 &&& (127 : Int32)))), .val (.ref b68), .unset] [(.int (16 : Int32)), (.int u4), (.int (5 : Int32)), (.ref b68)]))
    refine Gl.go ?_ (fun t k => XS.iushr X69.here hx rfl (hb hby at_52) rfl k)
    show Gl _ _ _ _ (T69.setTop (mkF m 53 #[.val (.int u0), .val (.int u1), .val (.int u2), .val (.int u3), .val (.int u4), .val (.int u5), .val (.int (0 : Int32)), .val (.int ((0 : Int32) + ((u5 &&& (2147483647 : Int32)) % (6 : Int32)))), .val (.int ((128 : Int32) ||| (u0 &&& (127 : Int32)))), .val (.ref b68), .unset] [(.int ((u4.toUInt32 >>> ((16 : Int32) &&& 31).toUInt32).toInt32)), (.int (5 : Int32)), (.ref b68)]))
    refine Gl.go ?_ (fun t k => XS.i2b X69.here hx rfl (hb hby at_53) rfl k)
    show Gl _ _ _ _ (T69.setTop (mkF m 54 #[.val (.int u0), .val (.int u1), .val (.int u2), .val (.int u3), .val (.int u4), .val (.int u5), .val (.int (0 : Int32)), .val (.int ((0 : Int32) + ((u5 &&& (2147483647 : Int32)) % (6 : Int32)))), .val (.int ((128 : Int32) ||| (u0 &&& (127 : Int32)))), .val (.ref b68), .unset] [(.int (((u4.toUInt32 >>> ((16 : Int32) &&& 31).toUInt32).toInt32).toInt8.toInt32)), (.int (5 : Int32)), (.ref b68)]))
    obtain ⟨cl70, Ar70, q70, S70, N70, Hh70, G70⟩ := V_b68
    obtain ⟨T70, h70, X70, e70, W70, st70⟩ := stB X69 hx hZ e69 Ar70 (j := (5 : Int32)) (inb_of S70 ⟨by decide, by decide⟩) (g := (mkF m 54 #[.val (.int u0), .val (.int u1), .val (.int u2), .val (.int u3), .val (.int u4), .val (.int u5), .val (.int (0 : Int32)), .val (.int ((0 : Int32) + ((u5 &&& (2147483647 : Int32)) % (6 : Int32)))), .val (.int ((128 : Int32) ||| (u0 &&& (127 : Int32)))), .val (.ref b68), .unset] [(.int (((u4.toUInt32 >>> ((16 : Int32) &&& 31).toUInt32).toInt32).toInt8.toInt32)), (.int (5 : Int32)), (.ref b68)])) rfl rfl (hb hby at_54)
    have Z0 := Nat.le_trans Z0 (Keep.of_wr W70).1
    have V_b68 : Arv Z h70 b68 k68 .byte (6 : Int32) [(.int (nar .byte (((u4.toUInt32 >>> ((8 : Int32) &&& 31).toUInt32).toInt32).toInt8.toInt32))), (.int (0 : Int32)), (.int (0 : Int32)), (.int (0 : Int32)), (.int (0 : Int32)), (.int (nar .byte (((u4.toUInt32 >>> ((16 : Int32) &&& 31).toUInt32).toInt32).toInt8.toInt32)))] (.int (0 : Int32)) := Arv.set Ar70 q70 S70 N70 Hh70 G70 (fits_nar_byte _) W70 5 rfl (Nat.le_of_ble_eq_true rfl)
    have NF := Fr.snoc X70 NF g_b68
    refine Gl.go ?_ st70
    show Gl _ _ _ _ (T70.setTop (mkF m 55 #[.val (.int u0), .val (.int u1), .val (.int u2), .val (.int u3), .val (.int u4), .val (.int u5), .val (.int (0 : Int32)), .val (.int ((0 : Int32) + ((u5 &&& (2147483647 : Int32)) % (6 : Int32)))), .val (.int ((128 : Int32) ||| (u0 &&& (127 : Int32)))), .val (.ref b68), .unset] []))
    refine Gl.go ?_ (fun t k => XS.aload X70.here hx rfl (hb hby at_55) rfl rfl k)
    show Gl _ _ _ _ (T70.setTop (mkF m 57 #[.val (.int u0), .val (.int u1), .val (.int u2), .val (.int u3), .val (.int u4), .val (.int u5), .val (.int (0 : Int32)), .val (.int ((0 : Int32) + ((u5 &&& (2147483647 : Int32)) % (6 : Int32)))), .val (.int ((128 : Int32) ||| (u0 &&& (127 : Int32)))), .val (.ref b68), .unset] [(.ref b68)]))
    refine Gl.go ?_ (fun t k => XS.iload X70.here hx rfl (hb hby at_57) rfl k)
    show Gl _ _ _ _ (T70.setTop (mkF m 59 #[.val (.int u0), .val (.int u1), .val (.int u2), .val (.int u3), .val (.int u4), .val (.int u5), .val (.int (0 : Int32)), .val (.int ((0 : Int32) + ((u5 &&& (2147483647 : Int32)) % (6 : Int32)))), .val (.int ((128 : Int32) ||| (u0 &&& (127 : Int32)))), .val (.ref b68), .unset] [(.int (0 : Int32)), (.ref b68)]))
    refine Gl.go ?_ (fun t k => XS.iload X70.here hx rfl (hb hby at_59) rfl k)
    show Gl _ _ _ _ (T70.setTop (mkF m 61 #[.val (.int u0), .val (.int u1), .val (.int u2), .val (.int u3), .val (.int u4), .val (.int u5), .val (.int (0 : Int32)), .val (.int ((0 : Int32) + ((u5 &&& (2147483647 : Int32)) % (6 : Int32)))), .val (.int ((128 : Int32) ||| (u0 &&& (127 : Int32)))), .val (.ref b68), .unset] [(.int ((128 : Int32) ||| (u0 &&& (127 : Int32)))), (.int (0 : Int32)), (.ref b68)]))
    refine Gl.go ?_ (fun t k => XS.i2b X70.here hx rfl (hb hby at_61) rfl k)
    show Gl _ _ _ _ (T70.setTop (mkF m 62 #[.val (.int u0), .val (.int u1), .val (.int u2), .val (.int u3), .val (.int u4), .val (.int u5), .val (.int (0 : Int32)), .val (.int ((0 : Int32) + ((u5 &&& (2147483647 : Int32)) % (6 : Int32)))), .val (.int ((128 : Int32) ||| (u0 &&& (127 : Int32)))), .val (.ref b68), .unset] [(.int (((128 : Int32) ||| (u0 &&& (127 : Int32))).toInt8.toInt32)), (.int (0 : Int32)), (.ref b68)]))
    obtain ⟨cl71, Ar71, q71, S71, N71, Hh71, G71⟩ := V_b68
    obtain ⟨T71, h71, X71, e71, W71, st71⟩ := stB X70 hx hZ e70 Ar71 (j := (0 : Int32)) (inb_of S71 ⟨by decide, by decide⟩) (g := (mkF m 62 #[.val (.int u0), .val (.int u1), .val (.int u2), .val (.int u3), .val (.int u4), .val (.int u5), .val (.int (0 : Int32)), .val (.int ((0 : Int32) + ((u5 &&& (2147483647 : Int32)) % (6 : Int32)))), .val (.int ((128 : Int32) ||| (u0 &&& (127 : Int32)))), .val (.ref b68), .unset] [(.int (((128 : Int32) ||| (u0 &&& (127 : Int32))).toInt8.toInt32)), (.int (0 : Int32)), (.ref b68)])) rfl rfl (hb hby at_62)
    have Z0 := Nat.le_trans Z0 (Keep.of_wr W71).1
    have V_b68 : Arv Z h71 b68 k68 .byte (6 : Int32) [(.int (nar .byte (((128 : Int32) ||| (u0 &&& (127 : Int32))).toInt8.toInt32))), (.int (0 : Int32)), (.int (0 : Int32)), (.int (0 : Int32)), (.int (0 : Int32)), (.int (nar .byte (((u4.toUInt32 >>> ((16 : Int32) &&& 31).toUInt32).toInt32).toInt8.toInt32)))] (.int (0 : Int32)) := Arv.set Ar71 q71 S71 N71 Hh71 G71 (fits_nar_byte _) W71 0 rfl (Nat.le_of_ble_eq_true rfl)
    have NF := Fr.snoc X71 NF g_b68
    refine Gl.go ?_ st71
    show Gl _ _ _ _ (T71.setTop (mkF m 63 #[.val (.int u0), .val (.int u1), .val (.int u2), .val (.int u3), .val (.int u4), .val (.int u5), .val (.int (0 : Int32)), .val (.int ((0 : Int32) + ((u5 &&& (2147483647 : Int32)) % (6 : Int32)))), .val (.int ((128 : Int32) ||| (u0 &&& (127 : Int32)))), .val (.ref b68), .unset] []))
    refine Gl.go ?_ (fun t k => XS.aload X71.here hx rfl (hb hby at_63) rfl rfl k)
    show Gl _ _ _ _ (T71.setTop (mkF m 65 #[.val (.int u0), .val (.int u1), .val (.int u2), .val (.int u3), .val (.int u4), .val (.int u5), .val (.int (0 : Int32)), .val (.int ((0 : Int32) + ((u5 &&& (2147483647 : Int32)) % (6 : Int32)))), .val (.int ((128 : Int32) ||| (u0 &&& (127 : Int32)))), .val (.ref b68), .unset] [(.ref b68)]))
    refine Gl.go ?_ (fun t k => XS.iload X71.here hx rfl (hb hby at_65) rfl k)
    show Gl _ _ _ _ (T71.setTop (mkF m 67 #[.val (.int u0), .val (.int u1), .val (.int u2), .val (.int u3), .val (.int u4), .val (.int u5), .val (.int (0 : Int32)), .val (.int ((0 : Int32) + ((u5 &&& (2147483647 : Int32)) % (6 : Int32)))), .val (.int ((128 : Int32) ||| (u0 &&& (127 : Int32)))), .val (.ref b68), .unset] [(.int (0 : Int32)), (.ref b68)]))
    refine Gl.go ?_ (fun t k => XS.iconst X71.here hx rfl (hb hby at_67) k)
    show Gl _ _ _ _ (T71.setTop (mkF m 68 #[.val (.int u0), .val (.int u1), .val (.int u2), .val (.int u3), .val (.int u4), .val (.int u5), .val (.int (0 : Int32)), .val (.int ((0 : Int32) + ((u5 &&& (2147483647 : Int32)) % (6 : Int32)))), .val (.int ((128 : Int32) ||| (u0 &&& (127 : Int32)))), .val (.ref b68), .unset] [(.int (1 : Int32)), (.int (0 : Int32)), (.ref b68)]))
    refine Gl.go ?_ (fun t k => XS.iadd X71.here hx rfl (hb hby at_68) rfl k)
    show Gl _ _ _ _ (T71.setTop (mkF m 69 #[.val (.int u0), .val (.int u1), .val (.int u2), .val (.int u3), .val (.int u4), .val (.int u5), .val (.int (0 : Int32)), .val (.int ((0 : Int32) + ((u5 &&& (2147483647 : Int32)) % (6 : Int32)))), .val (.int ((128 : Int32) ||| (u0 &&& (127 : Int32)))), .val (.ref b68), .unset] [(.int (1 : Int32)), (.ref b68)]))
    refine Gl.go ?_ (fun t k => XS.iloadN X71.here hx rfl (hb hby at_69) rfl k)
    show Gl _ _ _ _ (T71.setTop (mkF m 70 #[.val (.int u0), .val (.int u1), .val (.int u2), .val (.int u3), .val (.int u4), .val (.int u5), .val (.int (0 : Int32)), .val (.int ((0 : Int32) + ((u5 &&& (2147483647 : Int32)) % (6 : Int32)))), .val (.int ((128 : Int32) ||| (u0 &&& (127 : Int32)))), .val (.ref b68), .unset] [(.int u1), (.int (1 : Int32)), (.ref b68)]))
    refine Gl.go ?_ (fun t k => XS.i2b X71.here hx rfl (hb hby at_70) rfl k)
    show Gl _ _ _ _ (T71.setTop (mkF m 71 #[.val (.int u0), .val (.int u1), .val (.int u2), .val (.int u3), .val (.int u4), .val (.int u5), .val (.int (0 : Int32)), .val (.int ((0 : Int32) + ((u5 &&& (2147483647 : Int32)) % (6 : Int32)))), .val (.int ((128 : Int32) ||| (u0 &&& (127 : Int32)))), .val (.ref b68), .unset] [(.int (u1.toInt8.toInt32)), (.int (1 : Int32)), (.ref b68)]))
    obtain ⟨cl72, Ar72, q72, S72, N72, Hh72, G72⟩ := V_b68
    obtain ⟨T72, h72, X72, e72, W72, st72⟩ := stB X71 hx hZ e71 Ar72 (j := (1 : Int32)) (inb_of S72 ⟨by decide, by decide⟩) (g := (mkF m 71 #[.val (.int u0), .val (.int u1), .val (.int u2), .val (.int u3), .val (.int u4), .val (.int u5), .val (.int (0 : Int32)), .val (.int ((0 : Int32) + ((u5 &&& (2147483647 : Int32)) % (6 : Int32)))), .val (.int ((128 : Int32) ||| (u0 &&& (127 : Int32)))), .val (.ref b68), .unset] [(.int (u1.toInt8.toInt32)), (.int (1 : Int32)), (.ref b68)])) rfl rfl (hb hby at_71)
    have Z0 := Nat.le_trans Z0 (Keep.of_wr W72).1
    have V_b68 : Arv Z h72 b68 k68 .byte (6 : Int32) [(.int (nar .byte (((128 : Int32) ||| (u0 &&& (127 : Int32))).toInt8.toInt32))), (.int (nar .byte (u1.toInt8.toInt32))), (.int (0 : Int32)), (.int (0 : Int32)), (.int (0 : Int32)), (.int (nar .byte (((u4.toUInt32 >>> ((16 : Int32) &&& 31).toUInt32).toInt32).toInt8.toInt32)))] (.int (0 : Int32)) := Arv.set Ar72 q72 S72 N72 Hh72 G72 (fits_nar_byte _) W72 1 rfl (Nat.le_of_ble_eq_true rfl)
    have NF := Fr.snoc X72 NF g_b68
    refine Gl.go ?_ st72
    show Gl _ _ _ _ (T72.setTop (mkF m 72 #[.val (.int u0), .val (.int u1), .val (.int u2), .val (.int u3), .val (.int u4), .val (.int u5), .val (.int (0 : Int32)), .val (.int ((0 : Int32) + ((u5 &&& (2147483647 : Int32)) % (6 : Int32)))), .val (.int ((128 : Int32) ||| (u0 &&& (127 : Int32)))), .val (.ref b68), .unset] []))
    refine Gl.go ?_ (fun t k => XS.aload X72.here hx rfl (hb hby at_72) rfl rfl k)
    show Gl _ _ _ _ (T72.setTop (mkF m 74 #[.val (.int u0), .val (.int u1), .val (.int u2), .val (.int u3), .val (.int u4), .val (.int u5), .val (.int (0 : Int32)), .val (.int ((0 : Int32) + ((u5 &&& (2147483647 : Int32)) % (6 : Int32)))), .val (.int ((128 : Int32) ||| (u0 &&& (127 : Int32)))), .val (.ref b68), .unset] [(.ref b68)]))
    refine Gl.go ?_ (fun t k => XS.iload X72.here hx rfl (hb hby at_74) rfl k)
    show Gl _ _ _ _ (T72.setTop (mkF m 76 #[.val (.int u0), .val (.int u1), .val (.int u2), .val (.int u3), .val (.int u4), .val (.int u5), .val (.int (0 : Int32)), .val (.int ((0 : Int32) + ((u5 &&& (2147483647 : Int32)) % (6 : Int32)))), .val (.int ((128 : Int32) ||| (u0 &&& (127 : Int32)))), .val (.ref b68), .unset] [(.int (0 : Int32)), (.ref b68)]))
    refine Gl.go ?_ (fun t k => XS.iconst X72.here hx rfl (hb hby at_76) k)
    show Gl _ _ _ _ (T72.setTop (mkF m 77 #[.val (.int u0), .val (.int u1), .val (.int u2), .val (.int u3), .val (.int u4), .val (.int u5), .val (.int (0 : Int32)), .val (.int ((0 : Int32) + ((u5 &&& (2147483647 : Int32)) % (6 : Int32)))), .val (.int ((128 : Int32) ||| (u0 &&& (127 : Int32)))), .val (.ref b68), .unset] [(.int (2 : Int32)), (.int (0 : Int32)), (.ref b68)]))
    refine Gl.go ?_ (fun t k => XS.iadd X72.here hx rfl (hb hby at_77) rfl k)
    show Gl _ _ _ _ (T72.setTop (mkF m 78 #[.val (.int u0), .val (.int u1), .val (.int u2), .val (.int u3), .val (.int u4), .val (.int u5), .val (.int (0 : Int32)), .val (.int ((0 : Int32) + ((u5 &&& (2147483647 : Int32)) % (6 : Int32)))), .val (.int ((128 : Int32) ||| (u0 &&& (127 : Int32)))), .val (.ref b68), .unset] [(.int (2 : Int32)), (.ref b68)]))
    refine Gl.go ?_ (fun t k => XS.iloadN X72.here hx rfl (hb hby at_78) rfl k)
    show Gl _ _ _ _ (T72.setTop (mkF m 79 #[.val (.int u0), .val (.int u1), .val (.int u2), .val (.int u3), .val (.int u4), .val (.int u5), .val (.int (0 : Int32)), .val (.int ((0 : Int32) + ((u5 &&& (2147483647 : Int32)) % (6 : Int32)))), .val (.int ((128 : Int32) ||| (u0 &&& (127 : Int32)))), .val (.ref b68), .unset] [(.int u2), (.int (2 : Int32)), (.ref b68)]))
    refine Gl.go ?_ (fun t k => XS.i2b X72.here hx rfl (hb hby at_79) rfl k)
    show Gl _ _ _ _ (T72.setTop (mkF m 80 #[.val (.int u0), .val (.int u1), .val (.int u2), .val (.int u3), .val (.int u4), .val (.int u5), .val (.int (0 : Int32)), .val (.int ((0 : Int32) + ((u5 &&& (2147483647 : Int32)) % (6 : Int32)))), .val (.int ((128 : Int32) ||| (u0 &&& (127 : Int32)))), .val (.ref b68), .unset] [(.int (u2.toInt8.toInt32)), (.int (2 : Int32)), (.ref b68)]))
    obtain ⟨cl73, Ar73, q73, S73, N73, Hh73, G73⟩ := V_b68
    obtain ⟨T73, h73, X73, e73, W73, st73⟩ := stB X72 hx hZ e72 Ar73 (j := (2 : Int32)) (inb_of S73 ⟨by decide, by decide⟩) (g := (mkF m 80 #[.val (.int u0), .val (.int u1), .val (.int u2), .val (.int u3), .val (.int u4), .val (.int u5), .val (.int (0 : Int32)), .val (.int ((0 : Int32) + ((u5 &&& (2147483647 : Int32)) % (6 : Int32)))), .val (.int ((128 : Int32) ||| (u0 &&& (127 : Int32)))), .val (.ref b68), .unset] [(.int (u2.toInt8.toInt32)), (.int (2 : Int32)), (.ref b68)])) rfl rfl (hb hby at_80)
    have Z0 := Nat.le_trans Z0 (Keep.of_wr W73).1
    have V_b68 : Arv Z h73 b68 k68 .byte (6 : Int32) [(.int (nar .byte (((128 : Int32) ||| (u0 &&& (127 : Int32))).toInt8.toInt32))), (.int (nar .byte (u1.toInt8.toInt32))), (.int (nar .byte (u2.toInt8.toInt32))), (.int (0 : Int32)), (.int (0 : Int32)), (.int (nar .byte (((u4.toUInt32 >>> ((16 : Int32) &&& 31).toUInt32).toInt32).toInt8.toInt32)))] (.int (0 : Int32)) := Arv.set Ar73 q73 S73 N73 Hh73 G73 (fits_nar_byte _) W73 2 rfl (Nat.le_of_ble_eq_true rfl)
    have NF := Fr.snoc X73 NF g_b68
    refine Gl.go ?_ st73
    show Gl _ _ _ _ (T73.setTop (mkF m 81 #[.val (.int u0), .val (.int u1), .val (.int u2), .val (.int u3), .val (.int u4), .val (.int u5), .val (.int (0 : Int32)), .val (.int ((0 : Int32) + ((u5 &&& (2147483647 : Int32)) % (6 : Int32)))), .val (.int ((128 : Int32) ||| (u0 &&& (127 : Int32)))), .val (.ref b68), .unset] []))
    refine Gl.go ?_ (fun t k => XS.aload X73.here hx rfl (hb hby at_81) rfl rfl k)
    show Gl _ _ _ _ (T73.setTop (mkF m 83 #[.val (.int u0), .val (.int u1), .val (.int u2), .val (.int u3), .val (.int u4), .val (.int u5), .val (.int (0 : Int32)), .val (.int ((0 : Int32) + ((u5 &&& (2147483647 : Int32)) % (6 : Int32)))), .val (.int ((128 : Int32) ||| (u0 &&& (127 : Int32)))), .val (.ref b68), .unset] [(.ref b68)]))
    refine Gl.go ?_ (fun t k => XS.iload X73.here hx rfl (hb hby at_83) rfl k)
    show Gl _ _ _ _ (T73.setTop (mkF m 85 #[.val (.int u0), .val (.int u1), .val (.int u2), .val (.int u3), .val (.int u4), .val (.int u5), .val (.int (0 : Int32)), .val (.int ((0 : Int32) + ((u5 &&& (2147483647 : Int32)) % (6 : Int32)))), .val (.int ((128 : Int32) ||| (u0 &&& (127 : Int32)))), .val (.ref b68), .unset] [(.int (0 : Int32)), (.ref b68)]))
    refine Gl.go ?_ (fun t k => XS.iconst X73.here hx rfl (hb hby at_85) k)
    show Gl _ _ _ _ (T73.setTop (mkF m 86 #[.val (.int u0), .val (.int u1), .val (.int u2), .val (.int u3), .val (.int u4), .val (.int u5), .val (.int (0 : Int32)), .val (.int ((0 : Int32) + ((u5 &&& (2147483647 : Int32)) % (6 : Int32)))), .val (.int ((128 : Int32) ||| (u0 &&& (127 : Int32)))), .val (.ref b68), .unset] [(.int (3 : Int32)), (.int (0 : Int32)), (.ref b68)]))
    refine Gl.go ?_ (fun t k => XS.iadd X73.here hx rfl (hb hby at_86) rfl k)
    show Gl _ _ _ _ (T73.setTop (mkF m 87 #[.val (.int u0), .val (.int u1), .val (.int u2), .val (.int u3), .val (.int u4), .val (.int u5), .val (.int (0 : Int32)), .val (.int ((0 : Int32) + ((u5 &&& (2147483647 : Int32)) % (6 : Int32)))), .val (.int ((128 : Int32) ||| (u0 &&& (127 : Int32)))), .val (.ref b68), .unset] [(.int (3 : Int32)), (.ref b68)]))
    refine Gl.go ?_ (fun t k => XS.iloadN X73.here hx rfl (hb hby at_87) rfl k)
    show Gl _ _ _ _ (T73.setTop (mkF m 88 #[.val (.int u0), .val (.int u1), .val (.int u2), .val (.int u3), .val (.int u4), .val (.int u5), .val (.int (0 : Int32)), .val (.int ((0 : Int32) + ((u5 &&& (2147483647 : Int32)) % (6 : Int32)))), .val (.int ((128 : Int32) ||| (u0 &&& (127 : Int32)))), .val (.ref b68), .unset] [(.int u3), (.int (3 : Int32)), (.ref b68)]))
    refine Gl.go ?_ (fun t k => XS.i2b X73.here hx rfl (hb hby at_88) rfl k)
    show Gl _ _ _ _ (T73.setTop (mkF m 89 #[.val (.int u0), .val (.int u1), .val (.int u2), .val (.int u3), .val (.int u4), .val (.int u5), .val (.int (0 : Int32)), .val (.int ((0 : Int32) + ((u5 &&& (2147483647 : Int32)) % (6 : Int32)))), .val (.int ((128 : Int32) ||| (u0 &&& (127 : Int32)))), .val (.ref b68), .unset] [(.int (u3.toInt8.toInt32)), (.int (3 : Int32)), (.ref b68)]))
    obtain ⟨cl74, Ar74, q74, S74, N74, Hh74, G74⟩ := V_b68
    obtain ⟨T74, h74, X74, e74, W74, st74⟩ := stB X73 hx hZ e73 Ar74 (j := (3 : Int32)) (inb_of S74 ⟨by decide, by decide⟩) (g := (mkF m 89 #[.val (.int u0), .val (.int u1), .val (.int u2), .val (.int u3), .val (.int u4), .val (.int u5), .val (.int (0 : Int32)), .val (.int ((0 : Int32) + ((u5 &&& (2147483647 : Int32)) % (6 : Int32)))), .val (.int ((128 : Int32) ||| (u0 &&& (127 : Int32)))), .val (.ref b68), .unset] [(.int (u3.toInt8.toInt32)), (.int (3 : Int32)), (.ref b68)])) rfl rfl (hb hby at_89)
    have Z0 := Nat.le_trans Z0 (Keep.of_wr W74).1
    have V_b68 : Arv Z h74 b68 k68 .byte (6 : Int32) [(.int (nar .byte (((128 : Int32) ||| (u0 &&& (127 : Int32))).toInt8.toInt32))), (.int (nar .byte (u1.toInt8.toInt32))), (.int (nar .byte (u2.toInt8.toInt32))), (.int (nar .byte (u3.toInt8.toInt32))), (.int (0 : Int32)), (.int (nar .byte (((u4.toUInt32 >>> ((16 : Int32) &&& 31).toUInt32).toInt32).toInt8.toInt32)))] (.int (0 : Int32)) := Arv.set Ar74 q74 S74 N74 Hh74 G74 (fits_nar_byte _) W74 3 rfl (Nat.le_of_ble_eq_true rfl)
    have NF := Fr.snoc X74 NF g_b68
    refine Gl.go ?_ st74
    show Gl _ _ _ _ (T74.setTop (mkF m 90 #[.val (.int u0), .val (.int u1), .val (.int u2), .val (.int u3), .val (.int u4), .val (.int u5), .val (.int (0 : Int32)), .val (.int ((0 : Int32) + ((u5 &&& (2147483647 : Int32)) % (6 : Int32)))), .val (.int ((128 : Int32) ||| (u0 &&& (127 : Int32)))), .val (.ref b68), .unset] []))
    refine Gl.go ?_ (fun t k => XS.aload X74.here hx rfl (hb hby at_90) rfl rfl k)
    show Gl _ _ _ _ (T74.setTop (mkF m 92 #[.val (.int u0), .val (.int u1), .val (.int u2), .val (.int u3), .val (.int u4), .val (.int u5), .val (.int (0 : Int32)), .val (.int ((0 : Int32) + ((u5 &&& (2147483647 : Int32)) % (6 : Int32)))), .val (.int ((128 : Int32) ||| (u0 &&& (127 : Int32)))), .val (.ref b68), .unset] [(.ref b68)]))
    refine Gl.go ?_ (fun t k => XS.iload X74.here hx rfl (hb hby at_92) rfl k)
    show Gl _ _ _ _ (T74.setTop (mkF m 94 #[.val (.int u0), .val (.int u1), .val (.int u2), .val (.int u3), .val (.int u4), .val (.int u5), .val (.int (0 : Int32)), .val (.int ((0 : Int32) + ((u5 &&& (2147483647 : Int32)) % (6 : Int32)))), .val (.int ((128 : Int32) ||| (u0 &&& (127 : Int32)))), .val (.ref b68), .unset] [(.int (0 : Int32)), (.ref b68)]))
    refine Gl.go ?_ (fun t k => XS.iload X74.here hx rfl (hb hby at_94) rfl k)
    show Gl _ _ _ _ (T74.setTop (mkF m 96 #[.val (.int u0), .val (.int u1), .val (.int u2), .val (.int u3), .val (.int u4), .val (.int u5), .val (.int (0 : Int32)), .val (.int ((0 : Int32) + ((u5 &&& (2147483647 : Int32)) % (6 : Int32)))), .val (.int ((128 : Int32) ||| (u0 &&& (127 : Int32)))), .val (.ref b68), .unset] [(.int ((0 : Int32) + ((u5 &&& (2147483647 : Int32)) % (6 : Int32)))), (.int (0 : Int32)), (.ref b68)]))
    have hB : BA Z h74 b68 .byte (6 : Int32) (own_bs0 u0 u1 u2 u3 u4) := BA.of [(nar .byte (((128 : Int32) ||| (u0 &&& (127 : Int32))).toInt8.toInt32)), (nar .byte (u1.toInt8.toInt32)), (nar .byte (u2.toInt8.toInt32)), (nar .byte (u3.toInt8.toInt32)), (0 : Int32), (nar .byte (((u4.toUInt32 >>> ((16 : Int32) &&& 31).toUInt32).toInt32).toInt8.toInt32))] V_b68 (Nat.le_of_eq rfl)
    obtain ⟨_, _, ⟨T75, L75, k75, n75⟩, -, X75, ⟨Lc75, hQ75, l75, y75, z75⟩, st75⟩ := Jvm.LawKit.callS X74 hx (y := (⟨"com/example/litera/litera/Utf8", "sequenceEnd", "([BII)I"⟩ : MethodName)) hown (mvT hZ (hw _ (List.mem_of_getElem? (i := 2) rfl))) (mvT hZ (hw _ (List.mem_of_getElem? (i := 3) rfl))) (mvT hZ (hw _ (List.mem_of_getElem? (i := 4) rfl))) (mvT hZ (hw _ (List.mem_of_getElem? (i := 5) rfl))) (by decide) (backOf (W := 0) (rm1 l Z a0 hw [] b68 (0 : Int32) ((0 : Int32) + ((u5 &&& (2147483647 : Int32)) % (6 : Int32))) (own_bs0 u0 u1 u2 u3 u4) h74 hB (by decide) (by decide) (by decide) (by decide)) hZ (hw _ (List.mem_of_getElem? (i := 5) rfl)) (hw _ (List.mem_of_getElem? (i := 4) rfl)) (by decide) (by decide)) (g := (mkF m 96 #[.val (.int u0), .val (.int u1), .val (.int u2), .val (.int u3), .val (.int u4), .val (.int u5), .val (.int (0 : Int32)), .val (.int ((0 : Int32) + ((u5 &&& (2147483647 : Int32)) % (6 : Int32)))), .val (.int ((128 : Int32) ||| (u0 &&& (127 : Int32)))), .val (.ref b68), .unset] [(.int ((0 : Int32) + ((u5 &&& (2147483647 : Int32)) % (6 : Int32)))), (.int (0 : Int32)), (.ref b68)])) rfl (by rw [hml]; rfl) (argsL := [(.ref b68), (.int (0 : Int32)), (.int ((0 : Int32) + ((u5 &&& (2147483647 : Int32)) % (6 : Int32))))]) (rest := []) (lenOf pd_1 rfl) rfl (by show 2 * 0 + _ ≤ _; exact Nat.le_of_eq rfl) (hb hby at_96) (fun _ _ => ⟨rfl, e74, (by decide : 1 + 0 ≤ _), (by decide : 6 + 0 ≤ _)⟩)
    dsimp only [Pt.U, Pt.locs, Pt.cells, Pt.slots] at X75 l75 y75 z75 st75 hQ75
    subst l75 y75 z75
    obtain ⟨rfl, rfl, e75⟩ := hQ75
    have NF := Fr.app NF (Fr.nil n0)
    refine Gl.go ?_ st75
    show Gl _ _ _ _ (T75.setTop (mkF m 99 #[.val (.int u0), .val (.int u1), .val (.int u2), .val (.int u3), .val (.int u4), .val (.int u5), .val (.int (0 : Int32)), .val (.int ((0 : Int32) + ((u5 &&& (2147483647 : Int32)) % (6 : Int32)))), .val (.int ((128 : Int32) ||| (u0 &&& (127 : Int32)))), .val (.ref b68), .unset] [(.int (f_seq (0 : Int32) ((0 : Int32) + ((u5 &&& (2147483647 : Int32)) % (6 : Int32))) (own_bs0 u0 u1 u2 u3 u4)))]))
    refine Gl.go ?_ (fun t k => XS.istore X75.here hx rfl (hb hby at_99) rfl (l' := #[.val (.int u0), .val (.int u1), .val (.int u2), .val (.int u3), .val (.int u4), .val (.int u5), .val (.int (0 : Int32)), .val (.int ((0 : Int32) + ((u5 &&& (2147483647 : Int32)) % (6 : Int32)))), .val (.int ((128 : Int32) ||| (u0 &&& (127 : Int32)))), .val (.ref b68), .val (.int (f_seq (0 : Int32) ((0 : Int32) + ((u5 &&& (2147483647 : Int32)) % (6 : Int32))) (own_bs0 u0 u1 u2 u3 u4)))]) rfl k)
    show Gl _ _ _ _ (T75.setTop (mkF m 101 #[.val (.int u0), .val (.int u1), .val (.int u2), .val (.int u3), .val (.int u4), .val (.int u5), .val (.int (0 : Int32)), .val (.int ((0 : Int32) + ((u5 &&& (2147483647 : Int32)) % (6 : Int32)))), .val (.int ((128 : Int32) ||| (u0 &&& (127 : Int32)))), .val (.ref b68), .val (.int (f_seq (0 : Int32) ((0 : Int32) + ((u5 &&& (2147483647 : Int32)) % (6 : Int32))) (own_bs0 u0 u1 u2 u3 u4)))] []))
    refine Gl.go ?_ (fun t k => XS.iload X75.here hx rfl (hb hby at_101) rfl k)
    show Gl _ _ _ _ (T75.setTop (mkF m 103 #[.val (.int u0), .val (.int u1), .val (.int u2), .val (.int u3), .val (.int u4), .val (.int u5), .val (.int (0 : Int32)), .val (.int ((0 : Int32) + ((u5 &&& (2147483647 : Int32)) % (6 : Int32)))), .val (.int ((128 : Int32) ||| (u0 &&& (127 : Int32)))), .val (.ref b68), .val (.int (f_seq (0 : Int32) ((0 : Int32) + ((u5 &&& (2147483647 : Int32)) % (6 : Int32))) (own_bs0 u0 u1 u2 u3 u4)))] [(.int (f_seq (0 : Int32) ((0 : Int32) + ((u5 &&& (2147483647 : Int32)) % (6 : Int32))) (own_bs0 u0 u1 u2 u3 u4)))]))
    refine Gl.go ?_ (fun t k => XS.iload X75.here hx rfl (hb hby at_103) rfl k)
    show Gl _ _ _ _ (T75.setTop (mkF m 105 #[.val (.int u0), .val (.int u1), .val (.int u2), .val (.int u3), .val (.int u4), .val (.int u5), .val (.int (0 : Int32)), .val (.int ((0 : Int32) + ((u5 &&& (2147483647 : Int32)) % (6 : Int32)))), .val (.int ((128 : Int32) ||| (u0 &&& (127 : Int32)))), .val (.ref b68), .val (.int (f_seq (0 : Int32) ((0 : Int32) + ((u5 &&& (2147483647 : Int32)) % (6 : Int32))) (own_bs0 u0 u1 u2 u3 u4)))] [(.int ((128 : Int32) ||| (u0 &&& (127 : Int32)))), (.int (f_seq (0 : Int32) ((0 : Int32) + ((u5 &&& (2147483647 : Int32)) % (6 : Int32))) (own_bs0 u0 u1 u2 u3 u4)))]))
    refine Gl.go ?_ (fun t k => XS.iloadN X75.here hx rfl (hb hby at_105) rfl k)
    show Gl _ _ _ _ (T75.setTop (mkF m 106 #[.val (.int u0), .val (.int u1), .val (.int u2), .val (.int u3), .val (.int u4), .val (.int u5), .val (.int (0 : Int32)), .val (.int ((0 : Int32) + ((u5 &&& (2147483647 : Int32)) % (6 : Int32)))), .val (.int ((128 : Int32) ||| (u0 &&& (127 : Int32)))), .val (.ref b68), .val (.int (f_seq (0 : Int32) ((0 : Int32) + ((u5 &&& (2147483647 : Int32)) % (6 : Int32))) (own_bs0 u0 u1 u2 u3 u4)))] [(.int u1), (.int ((128 : Int32) ||| (u0 &&& (127 : Int32)))), (.int (f_seq (0 : Int32) ((0 : Int32) + ((u5 &&& (2147483647 : Int32)) % (6 : Int32))) (own_bs0 u0 u1 u2 u3 u4)))]))
    refine Gl.go ?_ (fun t k => XS.sipush X75.here hx rfl (hb hby at_106) k)
    show Gl _ _ _ _ (T75.setTop (mkF m 109 #[.val (.int u0), .val (.int u1), .val (.int u2), .val (.int u3), .val (.int u4), .val (.int u5), .val (.int (0 : Int32)), .val (.int ((0 : Int32) + ((u5 &&& (2147483647 : Int32)) % (6 : Int32)))), .val (.int ((128 : Int32) ||| (u0 &&& (127 : Int32)))), .val (.ref b68), .val (.int (f_seq (0 : Int32) ((0 : Int32) + ((u5 &&& (2147483647 : Int32)) % (6 : Int32))) (own_bs0 u0 u1 u2 u3 u4)))] [(.int (255 : Int32)), (.int u1), (.int ((128 : Int32) ||| (u0 &&& (127 : Int32)))), (.int (f_seq (0 : Int32) ((0 : Int32) + ((u5 &&& (2147483647 : Int32)) % (6 : Int32))) (own_bs0 u0 u1 u2 u3 u4)))]))
    refine Gl.go ?_ (fun t k => XS.iand X75.here hx rfl (hb hby at_109) rfl k)
    show Gl _ _ _ _ (T75.setTop (mkF m 110 #[.val (.int u0), .val (.int u1), .val (.int u2), .val (.int u3), .val (.int u4), .val (.int u5), .val (.int (0 : Int32)), .val (.int ((0 : Int32) + ((u5 &&& (2147483647 : Int32)) % (6 : Int32)))), .val (.int ((128 : Int32) ||| (u0 &&& (127 : Int32)))), .val (.ref b68), .val (.int (f_seq (0 : Int32) ((0 : Int32) + ((u5 &&& (2147483647 : Int32)) % (6 : Int32))) (own_bs0 u0 u1 u2 u3 u4)))] [(.int (u1 &&& (255 : Int32))), (.int ((128 : Int32) ||| (u0 &&& (127 : Int32)))), (.int (f_seq (0 : Int32) ((0 : Int32) + ((u5 &&& (2147483647 : Int32)) % (6 : Int32))) (own_bs0 u0 u1 u2 u3 u4)))]))
    refine Gl.go ?_ (fun t k => XS.iloadN X75.here hx rfl (hb hby at_110) rfl k)
    show Gl _ _ _ _ (T75.setTop (mkF m 111 #[.val (.int u0), .val (.int u1), .val (.int u2), .val (.int u3), .val (.int u4), .val (.int u5), .val (.int (0 : Int32)), .val (.int ((0 : Int32) + ((u5 &&& (2147483647 : Int32)) % (6 : Int32)))), .val (.int ((128 : Int32) ||| (u0 &&& (127 : Int32)))), .val (.ref b68), .val (.int (f_seq (0 : Int32) ((0 : Int32) + ((u5 &&& (2147483647 : Int32)) % (6 : Int32))) (own_bs0 u0 u1 u2 u3 u4)))] [(.int u2), (.int (u1 &&& (255 : Int32))), (.int ((128 : Int32) ||| (u0 &&& (127 : Int32)))), (.int (f_seq (0 : Int32) ((0 : Int32) + ((u5 &&& (2147483647 : Int32)) % (6 : Int32))) (own_bs0 u0 u1 u2 u3 u4)))]))
    refine Gl.go ?_ (fun t k => XS.sipush X75.here hx rfl (hb hby at_111) k)
    show Gl _ _ _ _ (T75.setTop (mkF m 114 #[.val (.int u0), .val (.int u1), .val (.int u2), .val (.int u3), .val (.int u4), .val (.int u5), .val (.int (0 : Int32)), .val (.int ((0 : Int32) + ((u5 &&& (2147483647 : Int32)) % (6 : Int32)))), .val (.int ((128 : Int32) ||| (u0 &&& (127 : Int32)))), .val (.ref b68), .val (.int (f_seq (0 : Int32) ((0 : Int32) + ((u5 &&& (2147483647 : Int32)) % (6 : Int32))) (own_bs0 u0 u1 u2 u3 u4)))] [(.int (255 : Int32)), (.int u2), (.int (u1 &&& (255 : Int32))), (.int ((128 : Int32) ||| (u0 &&& (127 : Int32)))), (.int (f_seq (0 : Int32) ((0 : Int32) + ((u5 &&& (2147483647 : Int32)) % (6 : Int32))) (own_bs0 u0 u1 u2 u3 u4)))]))
    refine Gl.go ?_ (fun t k => XS.iand X75.here hx rfl (hb hby at_114) rfl k)
    show Gl _ _ _ _ (T75.setTop (mkF m 115 #[.val (.int u0), .val (.int u1), .val (.int u2), .val (.int u3), .val (.int u4), .val (.int u5), .val (.int (0 : Int32)), .val (.int ((0 : Int32) + ((u5 &&& (2147483647 : Int32)) % (6 : Int32)))), .val (.int ((128 : Int32) ||| (u0 &&& (127 : Int32)))), .val (.ref b68), .val (.int (f_seq (0 : Int32) ((0 : Int32) + ((u5 &&& (2147483647 : Int32)) % (6 : Int32))) (own_bs0 u0 u1 u2 u3 u4)))] [(.int (u2 &&& (255 : Int32))), (.int (u1 &&& (255 : Int32))), (.int ((128 : Int32) ||| (u0 &&& (127 : Int32)))), (.int (f_seq (0 : Int32) ((0 : Int32) + ((u5 &&& (2147483647 : Int32)) % (6 : Int32))) (own_bs0 u0 u1 u2 u3 u4)))]))
    refine Gl.go ?_ (fun t k => XS.iloadN X75.here hx rfl (hb hby at_115) rfl k)
    show Gl _ _ _ _ (T75.setTop (mkF m 116 #[.val (.int u0), .val (.int u1), .val (.int u2), .val (.int u3), .val (.int u4), .val (.int u5), .val (.int (0 : Int32)), .val (.int ((0 : Int32) + ((u5 &&& (2147483647 : Int32)) % (6 : Int32)))), .val (.int ((128 : Int32) ||| (u0 &&& (127 : Int32)))), .val (.ref b68), .val (.int (f_seq (0 : Int32) ((0 : Int32) + ((u5 &&& (2147483647 : Int32)) % (6 : Int32))) (own_bs0 u0 u1 u2 u3 u4)))] [(.int u3), (.int (u2 &&& (255 : Int32))), (.int (u1 &&& (255 : Int32))), (.int ((128 : Int32) ||| (u0 &&& (127 : Int32)))), (.int (f_seq (0 : Int32) ((0 : Int32) + ((u5 &&& (2147483647 : Int32)) % (6 : Int32))) (own_bs0 u0 u1 u2 u3 u4)))]))
    refine Gl.go ?_ (fun t k => XS.sipush X75.here hx rfl (hb hby at_116) k)
    show Gl _ _ _ _ (T75.setTop (mkF m 119 #[.val (.int u0), .val (.int u1), .val (.int u2), .val (.int u3), .val (.int u4), .val (.int u5), .val (.int (0 : Int32)), .val (.int ((0 : Int32) + ((u5 &&& (2147483647 : Int32)) % (6 : Int32)))), .val (.int ((128 : Int32) ||| (u0 &&& (127 : Int32)))), .val (.ref b68), .val (.int (f_seq (0 : Int32) ((0 : Int32) + ((u5 &&& (2147483647 : Int32)) % (6 : Int32))) (own_bs0 u0 u1 u2 u3 u4)))] [(.int (255 : Int32)), (.int u3), (.int (u2 &&& (255 : Int32))), (.int (u1 &&& (255 : Int32))), (.int ((128 : Int32) ||| (u0 &&& (127 : Int32)))), (.int (f_seq (0 : Int32) ((0 : Int32) + ((u5 &&& (2147483647 : Int32)) % (6 : Int32))) (own_bs0 u0 u1 u2 u3 u4)))]))
    refine Gl.go ?_ (fun t k => XS.iand X75.here hx rfl (hb hby at_119) rfl k)
    show Gl _ _ _ _ (T75.setTop (mkF m 120 #[.val (.int u0), .val (.int u1), .val (.int u2), .val (.int u3), .val (.int u4), .val (.int u5), .val (.int (0 : Int32)), .val (.int ((0 : Int32) + ((u5 &&& (2147483647 : Int32)) % (6 : Int32)))), .val (.int ((128 : Int32) ||| (u0 &&& (127 : Int32)))), .val (.ref b68), .val (.int (f_seq (0 : Int32) ((0 : Int32) + ((u5 &&& (2147483647 : Int32)) % (6 : Int32))) (own_bs0 u0 u1 u2 u3 u4)))] [(.int (u3 &&& (255 : Int32))), (.int (u2 &&& (255 : Int32))), (.int (u1 &&& (255 : Int32))), (.int ((128 : Int32) ||| (u0 &&& (127 : Int32)))), (.int (f_seq (0 : Int32) ((0 : Int32) + ((u5 &&& (2147483647 : Int32)) % (6 : Int32))) (own_bs0 u0 u1 u2 u3 u4)))]))
    refine Gl.go ?_ (fun t k => XS.iload X75.here hx rfl (hb hby at_120) rfl k)
    show Gl _ _ _ _ (T75.setTop (mkF m 122 #[.val (.int u0), .val (.int u1), .val (.int u2), .val (.int u3), .val (.int u4), .val (.int u5), .val (.int (0 : Int32)), .val (.int ((0 : Int32) + ((u5 &&& (2147483647 : Int32)) % (6 : Int32)))), .val (.int ((128 : Int32) ||| (u0 &&& (127 : Int32)))), .val (.ref b68), .val (.int (f_seq (0 : Int32) ((0 : Int32) + ((u5 &&& (2147483647 : Int32)) % (6 : Int32))) (own_bs0 u0 u1 u2 u3 u4)))] [(.int (0 : Int32)), (.int (u3 &&& (255 : Int32))), (.int (u2 &&& (255 : Int32))), (.int (u1 &&& (255 : Int32))), (.int ((128 : Int32) ||| (u0 &&& (127 : Int32)))), (.int (f_seq (0 : Int32) ((0 : Int32) + ((u5 &&& (2147483647 : Int32)) % (6 : Int32))) (own_bs0 u0 u1 u2 u3 u4)))]))
    refine Gl.go ?_ (fun t k => XS.iload X75.here hx rfl (hb hby at_122) rfl k)
    show Gl _ _ _ _ (T75.setTop (mkF m 124 #[.val (.int u0), .val (.int u1), .val (.int u2), .val (.int u3), .val (.int u4), .val (.int u5), .val (.int (0 : Int32)), .val (.int ((0 : Int32) + ((u5 &&& (2147483647 : Int32)) % (6 : Int32)))), .val (.int ((128 : Int32) ||| (u0 &&& (127 : Int32)))), .val (.ref b68), .val (.int (f_seq (0 : Int32) ((0 : Int32) + ((u5 &&& (2147483647 : Int32)) % (6 : Int32))) (own_bs0 u0 u1 u2 u3 u4)))] [(.int ((0 : Int32) + ((u5 &&& (2147483647 : Int32)) % (6 : Int32)))), (.int (0 : Int32)), (.int (u3 &&& (255 : Int32))), (.int (u2 &&& (255 : Int32))), (.int (u1 &&& (255 : Int32))), (.int ((128 : Int32) ||| (u0 &&& (127 : Int32)))), (.int (f_seq (0 : Int32) ((0 : Int32) + ((u5 &&& (2147483647 : Int32)) % (6 : Int32))) (own_bs0 u0 u1 u2 u3 u4)))]))
    obtain ⟨_, _, ⟨T76, L76, k76, n76⟩, -, X76, ⟨Lc76, hQ76, l76, y76, z76⟩, st76⟩ := Jvm.LawKit.callS X75 hx (y := (⟨"com/example/litera/litera/Utf8SequenceEndPinLaw", "expected", "(IIIIII)I"⟩ : MethodName)) hown (mvT hZ (hw _ (List.mem_of_getElem? (i := 6) rfl))) (mvT hZ (hw _ (List.mem_of_getElem? (i := 7) rfl))) (mvT hZ (hw _ (List.mem_of_getElem? (i := 8) rfl))) (mvT hZ (hw _ (List.mem_of_getElem? (i := 9) rfl))) (by decide) (backOf (W := 1) (rm2 l Z a0 hw [] ((128 : Int32) ||| (u0 &&& (127 : Int32))) (u1 &&& (255 : Int32)) (u2 &&& (255 : Int32)) (u3 &&& (255 : Int32)) (0 : Int32) ((0 : Int32) + ((u5 &&& (2147483647 : Int32)) % (6 : Int32))) h74) hZ (hw _ (List.mem_of_getElem? (i := 9) rfl)) (hw _ (List.mem_of_getElem? (i := 8) rfl)) (by decide) (by decide)) (g := (mkF m 124 #[.val (.int u0), .val (.int u1), .val (.int u2), .val (.int u3), .val (.int u4), .val (.int u5), .val (.int (0 : Int32)), .val (.int ((0 : Int32) + ((u5 &&& (2147483647 : Int32)) % (6 : Int32)))), .val (.int ((128 : Int32) ||| (u0 &&& (127 : Int32)))), .val (.ref b68), .val (.int (f_seq (0 : Int32) ((0 : Int32) + ((u5 &&& (2147483647 : Int32)) % (6 : Int32))) (own_bs0 u0 u1 u2 u3 u4)))] [(.int ((0 : Int32) + ((u5 &&& (2147483647 : Int32)) % (6 : Int32)))), (.int (0 : Int32)), (.int (u3 &&& (255 : Int32))), (.int (u2 &&& (255 : Int32))), (.int (u1 &&& (255 : Int32))), (.int ((128 : Int32) ||| (u0 &&& (127 : Int32)))), (.int (f_seq (0 : Int32) ((0 : Int32) + ((u5 &&& (2147483647 : Int32)) % (6 : Int32))) (own_bs0 u0 u1 u2 u3 u4)))])) rfl (by rw [hml]; rfl) (argsL := [(.int ((128 : Int32) ||| (u0 &&& (127 : Int32)))), (.int (u1 &&& (255 : Int32))), (.int (u2 &&& (255 : Int32))), (.int (u3 &&& (255 : Int32))), (.int (0 : Int32)), (.int ((0 : Int32) + ((u5 &&& (2147483647 : Int32)) % (6 : Int32))))]) (rest := [(.int (f_seq (0 : Int32) ((0 : Int32) + ((u5 &&& (2147483647 : Int32)) % (6 : Int32))) (own_bs0 u0 u1 u2 u3 u4)))]) (lenOf pd_2 rfl) rfl (by show 2 * 0 + _ ≤ _; exact Nat.le_of_eq rfl) (hb hby at_124) (fun _ _ => ⟨rfl, e75, (by decide : 1 + 0 ≤ _), (by decide : 6 + 0 ≤ _)⟩)
    dsimp only [Pt.U, Pt.locs, Pt.cells, Pt.slots] at X76 l76 y76 z76 st76 hQ76
    subst l76 y76 z76
    obtain ⟨rfl, rfl, e76⟩ := hQ76
    have NF := Fr.app NF (Fr.nil n0)
    refine Gl.go ?_ st76
    show Gl _ _ _ _ (T76.setTop (mkF m 127 #[.val (.int u0), .val (.int u1), .val (.int u2), .val (.int u3), .val (.int u4), .val (.int u5), .val (.int (0 : Int32)), .val (.int ((0 : Int32) + ((u5 &&& (2147483647 : Int32)) % (6 : Int32)))), .val (.int ((128 : Int32) ||| (u0 &&& (127 : Int32)))), .val (.ref b68), .val (.int (f_seq (0 : Int32) ((0 : Int32) + ((u5 &&& (2147483647 : Int32)) % (6 : Int32))) (own_bs0 u0 u1 u2 u3 u4)))] [(.int (f_exp ((128 : Int32) ||| (u0 &&& (127 : Int32))) (u1 &&& (255 : Int32)) (u2 &&& (255 : Int32)) (u3 &&& (255 : Int32)) (0 : Int32) ((0 : Int32) + ((u5 &&& (2147483647 : Int32)) % (6 : Int32))))), (.int (f_seq (0 : Int32) ((0 : Int32) + ((u5 &&& (2147483647 : Int32)) % (6 : Int32))) (own_bs0 u0 u1 u2 u3 u4)))]))
    by_cases hc77 : (f_seq (0 : Int32) ((0 : Int32) + ((u5 &&& (2147483647 : Int32)) % (6 : Int32))) (own_bs0 u0 u1 u2 u3 u4)) = (f_exp ((128 : Int32) ||| (u0 &&& (127 : Int32))) (u1 &&& (255 : Int32)) (u2 &&& (255 : Int32)) (u3 &&& (255 : Int32)) (0 : Int32) ((0 : Int32) + ((u5 &&& (2147483647 : Int32)) % (6 : Int32))))
    · refine Gl.go ?_ (fun t k => XS.icmpNo X76.here hx rfl (hb hby at_127) rfl (teq hc77).2 k)
      show Gl _ _ _ _ (T76.setTop (mkF m 130 #[.val (.int u0), .val (.int u1), .val (.int u2), .val (.int u3), .val (.int u4), .val (.int u5), .val (.int (0 : Int32)), .val (.int ((0 : Int32) + ((u5 &&& (2147483647 : Int32)) % (6 : Int32)))), .val (.int ((128 : Int32) ||| (u0 &&& (127 : Int32)))), .val (.ref b68), .val (.int (f_seq (0 : Int32) ((0 : Int32) + ((u5 &&& (2147483647 : Int32)) % (6 : Int32))) (own_bs0 u0 u1 u2 u3 u4)))] []))
      refine Gl.go ?_ (fun t k => XS.iconst X76.here hx rfl (hb hby at_130) k)
      show Gl _ _ _ _ (T76.setTop (mkF m 131 #[.val (.int u0), .val (.int u1), .val (.int u2), .val (.int u3), .val (.int u4), .val (.int u5), .val (.int (0 : Int32)), .val (.int ((0 : Int32) + ((u5 &&& (2147483647 : Int32)) % (6 : Int32)))), .val (.int ((128 : Int32) ||| (u0 &&& (127 : Int32)))), .val (.ref b68), .val (.int (f_seq (0 : Int32) ((0 : Int32) + ((u5 &&& (2147483647 : Int32)) % (6 : Int32))) (own_bs0 u0 u1 u2 u3 u4)))] [(.int (1 : Int32))]))
      refine Gl.go ?_ (fun t k => XS.goto X76.here hx rfl (pc0 := 131) (pc' := 135) rfl (hb hby at_131) (by decide) (by decide) k)
      show Gl _ _ _ _ (T76.setTop (mkF m 135 #[.val (.int u0), .val (.int u1), .val (.int u2), .val (.int u3), .val (.int u4), .val (.int u5), .val (.int (0 : Int32)), .val (.int ((0 : Int32) + ((u5 &&& (2147483647 : Int32)) % (6 : Int32)))), .val (.int ((128 : Int32) ||| (u0 &&& (127 : Int32)))), .val (.ref b68), .val (.int (f_seq (0 : Int32) ((0 : Int32) + ((u5 &&& (2147483647 : Int32)) % (6 : Int32))) (own_bs0 u0 u1 u2 u3 u4)))] [(.int (1 : Int32))]))
      obtain ⟨fs, hr, hrun, hended, hW, hsame⟩ := X76.leave (v := some (.int (1 : Int32))) (fun h => by rw [Bd.returns] at h; cases h) (BodyLoose.notSynchronized Bd)
      exact Gl.mk ⟨_, _, retN X76 hx (t := .boolean) Bd.returns (by simp) (hb hby at_135) hr, hrun, hended, _, _, rfl, ⟨congrArg (fun z => some (Value.int z)) ((if_pos hi).trans ((if_pos hc77).trans (rfl))).symm, NF⟩, ⟨_, rfl⟩, hW, hsame.mono (by decide) (by decide)⟩
    · refine Gl.go ?_ (fun t k => XS.icmpYes X76.here hx rfl (pc0 := 127) (pc' := 134) rfl (hb hby at_127) rfl (feq hc77).2 (by decide) (by decide) k)
      show Gl _ _ _ _ (T76.setTop (mkF m 134 #[.val (.int u0), .val (.int u1), .val (.int u2), .val (.int u3), .val (.int u4), .val (.int u5), .val (.int (0 : Int32)), .val (.int ((0 : Int32) + ((u5 &&& (2147483647 : Int32)) % (6 : Int32)))), .val (.int ((128 : Int32) ||| (u0 &&& (127 : Int32)))), .val (.ref b68), .val (.int (f_seq (0 : Int32) ((0 : Int32) + ((u5 &&& (2147483647 : Int32)) % (6 : Int32))) (own_bs0 u0 u1 u2 u3 u4)))] []))
      refine Gl.go ?_ (fun t k => XS.iconst X76.here hx rfl (hb hby at_134) k)
      show Gl _ _ _ _ (T76.setTop (mkF m 135 #[.val (.int u0), .val (.int u1), .val (.int u2), .val (.int u3), .val (.int u4), .val (.int u5), .val (.int (0 : Int32)), .val (.int ((0 : Int32) + ((u5 &&& (2147483647 : Int32)) % (6 : Int32)))), .val (.int ((128 : Int32) ||| (u0 &&& (127 : Int32)))), .val (.ref b68), .val (.int (f_seq (0 : Int32) ((0 : Int32) + ((u5 &&& (2147483647 : Int32)) % (6 : Int32))) (own_bs0 u0 u1 u2 u3 u4)))] [(.int (0 : Int32))]))
      obtain ⟨fs, hr, hrun, hended, hW, hsame⟩ := X76.leave (v := some (.int (0 : Int32))) (fun h => by rw [Bd.returns] at h; cases h) (BodyLoose.notSynchronized Bd)
      exact Gl.mk ⟨_, _, retN X76 hx (t := .boolean) Bd.returns (by simp) (hb hby at_135) hr, hrun, hended, _, _, rfl, ⟨congrArg (fun z => some (Value.int z)) ((if_pos hi).trans ((if_neg hc77).trans (rfl))).symm, NF⟩, ⟨_, rfl⟩, hW, hsame.mono (by decide) (by decide)⟩
  · rw [hi]
    show Gl _ _ _ _ (s₁.setTop (mkF m 4 #[.val (.int u0), .val (.int u1), .val (.int u2), .val (.int u3), .val (.int u4), .val (.int u5), .unset, .unset, .unset, .unset, .unset] [(.int (1 : Int32))]))
    refine Gl.go ?_ (fun t k => XS.istore X0.here hx rfl (hb hby at_4) rfl (l' := #[.val (.int u0), .val (.int u1), .val (.int u2), .val (.int u3), .val (.int u4), .val (.int u5), .val (.int (1 : Int32)), .unset, .unset, .unset, .unset]) rfl k)
    show Gl _ _ _ _ (s₁.setTop (mkF m 6 #[.val (.int u0), .val (.int u1), .val (.int u2), .val (.int u3), .val (.int u4), .val (.int u5), .val (.int (1 : Int32)), .unset, .unset, .unset, .unset] []))
    refine Gl.go ?_ (fun t k => XS.iload X0.here hx rfl (hb hby at_6) rfl k)
    show Gl _ _ _ _ (s₁.setTop (mkF m 8 #[.val (.int u0), .val (.int u1), .val (.int u2), .val (.int u3), .val (.int u4), .val (.int u5), .val (.int (1 : Int32)), .unset, .unset, .unset, .unset] [(.int (1 : Int32))]))
    refine Gl.go ?_ (fun t k => XS.iload X0.here hx rfl (hb hby at_8) rfl k)
    show Gl _ _ _ _ (s₁.setTop (mkF m 10 #[.val (.int u0), .val (.int u1), .val (.int u2), .val (.int u3), .val (.int u4), .val (.int u5), .val (.int (1 : Int32)), .unset, .unset, .unset, .unset] [(.int u5), (.int (1 : Int32))]))
    refine Gl.go ?_ (X0.ldcInt hx hown (mvT hZ (hw _ (List.mem_of_getElem? (i := 0) rfl))) (g := (mkF m 10 #[.val (.int u0), .val (.int u1), .val (.int u2), .val (.int u3), .val (.int u4), .val (.int u5), .val (.int (1 : Int32)), .unset, .unset, .unset, .unset] [(.int u5), (.int (1 : Int32))])) rfl (hb hby at_10))
    show Gl _ _ _ _ (s₁.setTop (mkF m 12 #[.val (.int u0), .val (.int u1), .val (.int u2), .val (.int u3), .val (.int u4), .val (.int u5), .val (.int (1 : Int32)), .unset, .unset, .unset, .unset] [(.int (2147483647 : Int32)), (.int u5), (.int (1 : Int32))]))
    refine Gl.go ?_ (fun t k => XS.iand X0.here hx rfl (hb hby at_12) rfl k)
    show Gl _ _ _ _ (s₁.setTop (mkF m 13 #[.val (.int u0), .val (.int u1), .val (.int u2), .val (.int u3), .val (.int u4), .val (.int u5), .val (.int (1 : Int32)), .unset, .unset, .unset, .unset] [(.int (u5 &&& (2147483647 : Int32))), (.int (1 : Int32))]))
    refine Gl.go ?_ (fun t k => XS.bipush X0.here hx rfl (hb hby at_13) k)
    show Gl _ _ _ _ (s₁.setTop (mkF m 15 #[.val (.int u0), .val (.int u1), .val (.int u2), .val (.int u3), .val (.int u4), .val (.int u5), .val (.int (1 : Int32)), .unset, .unset, .unset, .unset] [(.int (6 : Int32)), (.int (u5 &&& (2147483647 : Int32))), (.int (1 : Int32))]))
    refine Gl.go ?_ (fun t k => iremM X0 hx rfl (hb hby at_15) rfl (by decide) k)
    show Gl _ _ _ _ (s₁.setTop (mkF m 16 #[.val (.int u0), .val (.int u1), .val (.int u2), .val (.int u3), .val (.int u4), .val (.int u5), .val (.int (1 : Int32)), .unset, .unset, .unset, .unset] [(.int ((u5 &&& (2147483647 : Int32)) % (6 : Int32))), (.int (1 : Int32))]))
    refine Gl.go ?_ (fun t k => XS.iadd X0.here hx rfl (hb hby at_16) rfl k)
    show Gl _ _ _ _ (s₁.setTop (mkF m 17 #[.val (.int u0), .val (.int u1), .val (.int u2), .val (.int u3), .val (.int u4), .val (.int u5), .val (.int (1 : Int32)), .unset, .unset, .unset, .unset] [(.int ((1 : Int32) + ((u5 &&& (2147483647 : Int32)) % (6 : Int32))))]))
    refine Gl.go ?_ (fun t k => XS.istore X0.here hx rfl (hb hby at_17) rfl (l' := #[.val (.int u0), .val (.int u1), .val (.int u2), .val (.int u3), .val (.int u4), .val (.int u5), .val (.int (1 : Int32)), .val (.int ((1 : Int32) + ((u5 &&& (2147483647 : Int32)) % (6 : Int32)))), .unset, .unset, .unset]) rfl k)
    show Gl _ _ _ _ (s₁.setTop (mkF m 19 #[.val (.int u0), .val (.int u1), .val (.int u2), .val (.int u3), .val (.int u4), .val (.int u5), .val (.int (1 : Int32)), .val (.int ((1 : Int32) + ((u5 &&& (2147483647 : Int32)) % (6 : Int32)))), .unset, .unset, .unset] []))
    refine Gl.go ?_ (fun t k => XS.sipush X0.here hx rfl (hb hby at_19) k)
    show Gl _ _ _ _ (s₁.setTop (mkF m 22 #[.val (.int u0), .val (.int u1), .val (.int u2), .val (.int u3), .val (.int u4), .val (.int u5), .val (.int (1 : Int32)), .val (.int ((1 : Int32) + ((u5 &&& (2147483647 : Int32)) % (6 : Int32)))), .unset, .unset, .unset] [(.int (128 : Int32))]))
    refine Gl.go ?_ (fun t k => XS.iloadN X0.here hx rfl (hb hby at_22) rfl k)
    show Gl _ _ _ _ (s₁.setTop (mkF m 23 #[.val (.int u0), .val (.int u1), .val (.int u2), .val (.int u3), .val (.int u4), .val (.int u5), .val (.int (1 : Int32)), .val (.int ((1 : Int32) + ((u5 &&& (2147483647 : Int32)) % (6 : Int32)))), .unset, .unset, .unset] [(.int u0), (.int (128 : Int32))]))
    refine Gl.go ?_ (fun t k => XS.bipush X0.here hx rfl (hb hby at_23) k)
    show Gl _ _ _ _ (s₁.setTop (mkF m 25 #[.val (.int u0), .val (.int u1), .val (.int u2), .val (.int u3), .val (.int u4), .val (.int u5), .val (.int (1 : Int32)), .val (.int ((1 : Int32) + ((u5 &&& (2147483647 : Int32)) % (6 : Int32)))), .unset, .unset, .unset] [(.int (127 : Int32)), (.int u0), (.int (128 : Int32))]))
    refine Gl.go ?_ (fun t k => XS.iand X0.here hx rfl (hb hby at_25) rfl k)
    show Gl _ _ _ _ (s₁.setTop (mkF m 26 #[.val (.int u0), .val (.int u1), .val (.int u2), .val (.int u3), .val (.int u4), .val (.int u5), .val (.int (1 : Int32)), .val (.int ((1 : Int32) + ((u5 &&& (2147483647 : Int32)) % (6 : Int32)))), .unset, .unset, .unset] [(.int (u0 &&& (127 : Int32))), (.int (128 : Int32))]))
    refine Gl.go ?_ (fun t k => XS.ior X0.here hx rfl (hb hby at_26) rfl k)
    show Gl _ _ _ _ (s₁.setTop (mkF m 27 #[.val (.int u0), .val (.int u1), .val (.int u2), .val (.int u3), .val (.int u4), .val (.int u5), .val (.int (1 : Int32)), .val (.int ((1 : Int32) + ((u5 &&& (2147483647 : Int32)) % (6 : Int32)))), .unset, .unset, .unset] [(.int ((128 : Int32) ||| (u0 &&& (127 : Int32))))]))
    refine Gl.go ?_ (fun t k => XS.istore X0.here hx rfl (hb hby at_27) rfl (l' := #[.val (.int u0), .val (.int u1), .val (.int u2), .val (.int u3), .val (.int u4), .val (.int u5), .val (.int (1 : Int32)), .val (.int ((1 : Int32) + ((u5 &&& (2147483647 : Int32)) % (6 : Int32)))), .val (.int ((128 : Int32) ||| (u0 &&& (127 : Int32)))), .unset, .unset]) rfl k)
    show Gl _ _ _ _ (s₁.setTop (mkF m 29 #[.val (.int u0), .val (.int u1), .val (.int u2), .val (.int u3), .val (.int u4), .val (.int u5), .val (.int (1 : Int32)), .val (.int ((1 : Int32) + ((u5 &&& (2147483647 : Int32)) % (6 : Int32)))), .val (.int ((128 : Int32) ||| (u0 &&& (127 : Int32)))), .unset, .unset] []))
    refine Gl.go ?_ (fun t k => XS.bipush X0.here hx rfl (hb hby at_29) k)
    show Gl _ _ _ _ (s₁.setTop (mkF m 31 #[.val (.int u0), .val (.int u1), .val (.int u2), .val (.int u3), .val (.int u4), .val (.int u5), .val (.int (1 : Int32)), .val (.int ((1 : Int32) + ((u5 &&& (2147483647 : Int32)) % (6 : Int32)))), .val (.int ((128 : Int32) ||| (u0 &&& (127 : Int32)))), .unset, .unset] [(.int (6 : Int32))]))
    obtain ⟨T78, h78, k78, X78, e78, E78, A78, st78⟩ := newP X0 hx hZ (hw _ (List.mem_of_getElem? (i := 1) rfl)) e0 (g := (mkF m 31 #[.val (.int u0), .val (.int u1), .val (.int u2), .val (.int u3), .val (.int u4), .val (.int u5), .val (.int (1 : Int32)), .val (.int ((1 : Int32) + ((u5 &&& (2147483647 : Int32)) % (6 : Int32)))), .val (.int ((128 : Int32) ||| (u0 &&& (127 : Int32)))), .unset, .unset] [(.int (6 : Int32))])) rfl (hb hby at_31) rfl (by decide) (cap := 6) (by decide) (by decide) (by decide) (by decide)
    obtain ⟨b78, g78⟩ : ∃ z, z = h0.size := ⟨_, rfl⟩
    rw [← g78] at A78 st78
    have g_b78 : n0 ≤ b78 := Nat.le_trans Z0 (Nat.le_of_eq g78.symm)
    have Z0 := Nat.le_trans Z0 E78.1
    have V_b78 : Arv Z h78 b78 k78 .byte (6 : Int32) [(.int (0 : Int32)), (.int (0 : Int32)), (.int (0 : Int32)), (.int (0 : Int32)), (.int (0 : Int32)), (.int (0 : Int32))] (.int (0 : Int32)) := (Arv.new A78 (by decide)).pad (pad_rep [] (.int (0 : Int32)) 6)
    refine Gl.go ?_ st78
    show Gl _ _ _ _ (T78.setTop (mkF m 33 #[.val (.int u0), .val (.int u1), .val (.int u2), .val (.int u3), .val (.int u4), .val (.int u5), .val (.int (1 : Int32)), .val (.int ((1 : Int32) + ((u5 &&& (2147483647 : Int32)) % (6 : Int32)))), .val (.int ((128 : Int32) ||| (u0 &&& (127 : Int32)))), .unset, .unset] [(.ref b78)]))
    refine Gl.go ?_ (fun t k => XS.astore X78.here hx rfl (hb hby at_33) rfl rfl (l' := #[.val (.int u0), .val (.int u1), .val (.int u2), .val (.int u3), .val (.int u4), .val (.int u5), .val (.int (1 : Int32)), .val (.int ((1 : Int32) + ((u5 &&& (2147483647 : Int32)) % (6 : Int32)))), .val (.int ((128 : Int32) ||| (u0 &&& (127 : Int32)))), .val (.ref b78), .unset]) rfl k)
    show Gl _ _ _ _ (T78.setTop (mkF m 35 #[.val (.int u0), .val (.int u1), .val (.int u2), .val (.int u3), .val (.int u4), .val (.int u5), .val (.int (1 : Int32)), .val (.int ((1 : Int32) + ((u5 &&& (2147483647 : Int32)) % (6 : Int32)))), .val (.int ((128 : Int32) ||| (u0 &&& (127 : Int32)))), .val (.ref b78), .unset] []))
    refine Gl.go ?_ (fun t k => XS.aload X78.here hx rfl (hb hby at_35) rfl rfl k)
    show Gl _ _ _ _ (T78.setTop (mkF m 37 #[.val (.int u0), .val (.int u1), .val (.int u2), .val (.int u3), .val (.int u4), .val (.int u5), .val (.int (1 : Int32)), .val (.int ((1 : Int32) + ((u5 &&& (2147483647 : Int32)) % (6 : Int32)))), .val (.int ((128 : Int32) ||| (u0 &&& (127 : Int32)))), .val (.ref b78), .unset] [(.ref b78)]))
    refine Gl.go ?_ (fun t k => XS.iconst X78.here hx rfl (hb hby at_37) k)
    show Gl _ _ _ _ (T78.setTop (mkF m 38 #[.val (.int u0), .val (.int u1), .val (.int u2), .val (.int u3), .val (.int u4), .val (.int u5), .val (.int (1 : Int32)), .val (.int ((1 : Int32) + ((u5 &&& (2147483647 : Int32)) % (6 : Int32)))), .val (.int ((128 : Int32) ||| (u0 &&& (127 : Int32)))), .val (.ref b78), .unset] [(.int (0 : Int32)), (.ref b78)]))
    refine Gl.go ?_ (fun t k => XS.iload X78.here hx rfl (hb hby at_38) rfl k)
    show Gl _ _ _ _ (T78.setTop (mkF m 40 #[.val (.int u0), .val (.int u1), .val (.int u2), .val (.int u3), .val (.int u4), .val (.int u5), .val (.int (1 : Int32)), .val (.int ((1 : Int32) + ((u5 &&& (2147483647 : Int32)) % (6 : Int32)))), .val (.int ((128 : Int32) ||| (u0 &&& (127 : Int32)))), .val (.ref b78), .unset] [(.int u4), (.int (0 : Int32)), (.ref b78)]))
    refine Gl.go ?_ (fun t k => XS.bipush X78.here hx rfl (hb hby at_40) k)
    show Gl _ _ _ _ (T78.setTop (mkF m 42 #[.val (.int u0), .val (.int u1), .val (.int u2), .val (.int u3), .val (.int u4), .val (.int u5), .val (.int (1 : Int32)), .val (.int ((1 : Int32) + ((u5 &&& (2147483647 : Int32)) % (6 : Int32)))), .val (.int ((128 : Int32) ||| (u0 &&& (127 : Int32)))), .val (.ref b78), .unset] [(.int (8 : Int32)), (.int u4), (.int (0 : Int32)), (.ref b78)]))
    refine Gl.go ?_ (fun t k => XS.iushr X78.here hx rfl (hb hby at_42) rfl k)
    show Gl _ _ _ _ (T78.setTop (mkF m 43 #[.val (.int u0), .val (.int u1), .val (.int u2), .val (.int u3), .val (.int u4), .val (.int u5), .val (.int (1 : Int32)), .val (.int ((1 : Int32) + ((u5 &&& (2147483647 : Int32)) % (6 : Int32)))), .val (.int ((128 : Int32) ||| (u0 &&& (127 : Int32)))), .val (.ref b78), .unset] [(.int ((u4.toUInt32 >>> ((8 : Int32) &&& 31).toUInt32).toInt32)), (.int (0 : Int32)), (.ref b78)]))
    refine Gl.go ?_ (fun t k => XS.i2b X78.here hx rfl (hb hby at_43) rfl k)
    show Gl _ _ _ _ (T78.setTop (mkF m 44 #[.val (.int u0), .val (.int u1), .val (.int u2), .val (.int u3), .val (.int u4), .val (.int u5), .val (.int (1 : Int32)), .val (.int ((1 : Int32) + ((u5 &&& (2147483647 : Int32)) % (6 : Int32)))), .val (.int ((128 : Int32) ||| (u0 &&& (127 : Int32)))), .val (.ref b78), .unset] [(.int (((u4.toUInt32 >>> ((8 : Int32) &&& 31).toUInt32).toInt32).toInt8.toInt32)), (.int (0 : Int32)), (.ref b78)]))
    obtain ⟨cl79, Ar79, q79, S79, N79, Hh79, G79⟩ := V_b78
    obtain ⟨T79, h79, X79, e79, W79, st79⟩ := stB X78 hx hZ e78 Ar79 (j := (0 : Int32)) (inb_of S79 ⟨by decide, by decide⟩) (g := (mkF m 44 #[.val (.int u0), .val (.int u1), .val (.int u2), .val (.int u3), .val (.int u4), .val (.int u5), .val (.int (1 : Int32)), .val (.int ((1 : Int32) + ((u5 &&& (2147483647 : Int32)) % (6 : Int32)))), .val (.int ((128 : Int32) ||| (u0 &&& (127 : Int32)))), .val (.ref b78), .unset] [(.int (((u4.toUInt32 >>> ((8 : Int32) &&& 31).toUInt32).toInt32).toInt8.toInt32)), (.int (0 : Int32)), (.ref b78)])) rfl rfl (hb hby at_44)
    have Z0 := Nat.le_trans Z0 (Keep.of_wr W79).1
    have V_b78 : Arv Z h79 b78 k78 .byte (6 : Int32) [(.int (nar .byte (((u4.toUInt32 >>> ((8 : Int32) &&& 31).toUInt32).toInt32).toInt8.toInt32))), (.int (0 : Int32)), (.int (0 : Int32)), (.int (0 : Int32)), (.int (0 : Int32)), (.int (0 : Int32))] (.int (0 : Int32)) := Arv.set Ar79 q79 S79 N79 Hh79 G79 (fits_nar_byte _) W79 0 rfl (Nat.le_of_ble_eq_true rfl)
    have NF := Fr.snoc X79 NF g_b78
    refine Gl.go ?_ st79
    show Gl _ _ _ _ (T79.setTop (mkF m 45 #[.val (.int u0), .val (.int u1), .val (.int u2), .val (.int u3), .val (.int u4), .val (.int u5), .val (.int (1 : Int32)), .val (.int ((1 : Int32) + ((u5 &&& (2147483647 : Int32)) % (6 : Int32)))), .val (.int ((128 : Int32) ||| (u0 &&& (127 : Int32)))), .val (.ref b78), .unset] []))
    refine Gl.go ?_ (fun t k => XS.aload X79.here hx rfl (hb hby at_45) rfl rfl k)
    show Gl _ _ _ _ (T79.setTop (mkF m 47 #[.val (.int u0), .val (.int u1), .val (.int u2), .val (.int u3), .val (.int u4), .val (.int u5), .val (.int (1 : Int32)), .val (.int ((1 : Int32) + ((u5 &&& (2147483647 : Int32)) % (6 : Int32)))), .val (.int ((128 : Int32) ||| (u0 &&& (127 : Int32)))), .val (.ref b78), .unset] [(.ref b78)]))
    refine Gl.go ?_ (fun t k => XS.iconst X79.here hx rfl (hb hby at_47) k)
    show Gl _ _ _ _ (T79.setTop (mkF m 48 #[.val (.int u0), .val (.int u1), .val (.int u2), .val (.int u3), .val (.int u4), .val (.int u5), .val (.int (1 : Int32)), .val (.int ((1 : Int32) + ((u5 &&& (2147483647 : Int32)) % (6 : Int32)))), .val (.int ((128 : Int32) ||| (u0 &&& (127 : Int32)))), .val (.ref b78), .unset] [(.int (5 : Int32)), (.ref b78)]))
    refine Gl.go ?_ (fun t k => XS.iload X79.here hx rfl (hb hby at_48) rfl k)
    show Gl _ _ _ _ (T79.setTop (mkF m 50 #[.val (.int u0), .val (.int u1), .val (.int u2), .val (.int u3), .val (.int u4), .val (.int u5), .val (.int (1 : Int32)), .val (.int ((1 : Int32) + ((u5 &&& (2147483647 : Int32)) % (6 : Int32)))), .val (.int ((128 : Int32) ||| (u0 &&& (127 : Int32)))), .val (.ref b78), .unset] [(.int u4), (.int (5 : Int32)), (.ref b78)]))
    refine Gl.go ?_ (fun t k => XS.bipush X79.here hx rfl (hb hby at_50) k)
    show Gl _ _ _ _ (T79.setTop (mkF m 52 #[.val (.int u0), .val (.int u1), .val (.int u2), .val (.int u3), .val (.int u4), .val (.int u5), .val (.int (1 : Int32)), .val (.int ((1 : Int32) + ((u5 &&& (2147483647 : Int32)) % (6 : Int32)))), .val (.int ((128 : Int32) ||| (u0 &&& (127 : Int32)))), .val (.ref b78), .unset] [(.int (16 : Int32)), (.int u4), (.int (5 : Int32)), (.ref b78)]))
    refine Gl.go ?_ (fun t k => XS.iushr X79.here hx rfl (hb hby at_52) rfl k)
    show Gl _ _ _ _ (T79.setTop (mkF m 53 #[.val (.int u0), .val (.int u1), .val (.int u2), .val (.int u3), .val (.int u4), .val (.int u5), .val (.int (1 : Int32)), .val (.int ((1 : Int32) + ((u5 &&& (2147483647 : Int32)) % (6 : Int32)))), .val (.int ((128 : Int32) ||| (u0 &&& (127 : Int32)))), .val (.ref b78), .unset] [(.int ((u4.toUInt32 >>> ((16 : Int32) &&& 31).toUInt32).toInt32)), (.int (5 : Int32)), (.ref b78)]))
    refine Gl.go ?_ (fun t k => XS.i2b X79.here hx rfl (hb hby at_53) rfl k)
    show Gl _ _ _ _ (T79.setTop (mkF m 54 #[.val (.int u0), .val (.int u1), .val (.int u2), .val (.int u3), .val (.int u4), .val (.int u5), .val (.int (1 : Int32)), .val (.int ((1 : Int32) + ((u5 &&& (2147483647 : Int32)) % (6 : Int32)))), .val (.int ((128 : Int32) ||| (u0 &&& (127 : Int32)))), .val (.ref b78), .unset] [(.int (((u4.toUInt32 >>> ((16 : Int32) &&& 31).toUInt32).toInt32).toInt8.toInt32)), (.int (5 : Int32)), (.ref b78)]))
    obtain ⟨cl80, Ar80, q80, S80, N80, Hh80, G80⟩ := V_b78
    obtain ⟨T80, h80, X80, e80, W80, st80⟩ := stB X79 hx hZ e79 Ar80 (j := (5 : Int32)) (inb_of S80 ⟨by decide, by decide⟩) (g := (mkF m 54 #[.val (.int u0), .val (.int u1), .val (.int u2), .val (.int u3), .val (.int u4), .val (.int u5), .val (.int (1 : Int32)), .val (.int ((1 : Int32) + ((u5 &&& (2147483647 : Int32)) % (6 : Int32)))), .val (.int ((128 : Int32) ||| (u0 &&& (127 : Int32)))), .val (.ref b78), .unset] [(.int (((u4.toUInt32 >>> ((16 : Int32) &&& 31).toUInt32).toInt32).toInt8.toInt32)), (.int (5 : Int32)), (.ref b78)])) rfl rfl (hb hby at_54)
    have Z0 := Nat.le_trans Z0 (Keep.of_wr W80).1
    have V_b78 : Arv Z h80 b78 k78 .byte (6 : Int32) [(.int (nar .byte (((u4.toUInt32 >>> ((8 : Int32) &&& 31).toUInt32).toInt32).toInt8.toInt32))), (.int (0 : Int32)), (.int (0 : Int32)), (.int (0 : Int32)), (.int (0 : Int32)), (.int (nar .byte (((u4.toUInt32 >>> ((16 : Int32) &&& 31).toUInt32).toInt32).toInt8.toInt32)))] (.int (0 : Int32)) := Arv.set Ar80 q80 S80 N80 Hh80 G80 (fits_nar_byte _) W80 5 rfl (Nat.le_of_ble_eq_true rfl)
    have NF := Fr.snoc X80 NF g_b78
    refine Gl.go ?_ st80
    show Gl _ _ _ _ (T80.setTop (mkF m 55 #[.val (.int u0), .val (.int u1), .val (.int u2), .val (.int u3), .val (.int u4), .val (.int u5), .val (.int (1 : Int32)), .val (.int ((1 : Int32) + ((u5 &&& (2147483647 : Int32)) % (6 : Int32)))), .val (.int ((128 : Int32) ||| (u0 &&& (127 : Int32)))), .val (.ref b78), .unset] []))
    refine Gl.go ?_ (fun t k => XS.aload X80.here hx rfl (hb hby at_55) rfl rfl k)
    show Gl _ _ _ _ (T80.setTop (mkF m 57 #[.val (.int u0), .val (.int u1), .val (.int u2), .val (.int u3), .val (.int u4), .val (.int u5), .val (.int (1 : Int32)), .val (.int ((1 : Int32) + ((u5 &&& (2147483647 : Int32)) % (6 : Int32)))), .val (.int ((128 : Int32) ||| (u0 &&& (127 : Int32)))), .val (.ref b78), .unset] [(.ref b78)]))
    refine Gl.go ?_ (fun t k => XS.iload X80.here hx rfl (hb hby at_57) rfl k)
    show Gl _ _ _ _ (T80.setTop (mkF m 59 #[.val (.int u0), .val (.int u1), .val (.int u2), .val (.int u3), .val (.int u4), .val (.int u5), .val (.int (1 : Int32)), .val (.int ((1 : Int32) + ((u5 &&& (2147483647 : Int32)) % (6 : Int32)))), .val (.int ((128 : Int32) ||| (u0 &&& (127 : Int32)))), .val (.ref b78), .unset] [(.int (1 : Int32)), (.ref b78)]))
    refine Gl.go ?_ (fun t k => XS.iload X80.here hx rfl (hb hby at_59) rfl k)
    show Gl _ _ _ _ (T80.setTop (mkF m 61 #[.val (.int u0), .val (.int u1), .val (.int u2), .val (.int u3), .val (.int u4), .val (.int u5), .val (.int (1 : Int32)), .val (.int ((1 : Int32) + ((u5 &&& (2147483647 : Int32)) % (6 : Int32)))), .val (.int ((128 : Int32) ||| (u0 &&& (127 : Int32)))), .val (.ref b78), .unset] [(.int ((128 : Int32) ||| (u0 &&& (127 : Int32)))), (.int (1 : Int32)), (.ref b78)]))
    refine Gl.go ?_ (fun t k => XS.i2b X80.here hx rfl (hb hby at_61) rfl k)
    show Gl _ _ _ _ (T80.setTop (mkF m 62 #[.val (.int u0), .val (.int u1), .val (.int u2), .val (.int u3), .val (.int u4), .val (.int u5), .val (.int (1 : Int32)), .val (.int ((1 : Int32) + ((u5 &&& (2147483647 : Int32)) % (6 : Int32)))), .val (.int ((128 : Int32) ||| (u0 &&& (127 : Int32)))), .val (.ref b78), .unset] [(.int (((128 : Int32) ||| (u0 &&& (127 : Int32))).toInt8.toInt32)), (.int (1 : Int32)), (.ref b78)]))
    obtain ⟨cl81, Ar81, q81, S81, N81, Hh81, G81⟩ := V_b78
    obtain ⟨T81, h81, X81, e81, W81, st81⟩ := stB X80 hx hZ e80 Ar81 (j := (1 : Int32)) (inb_of S81 ⟨by decide, by decide⟩) (g := (mkF m 62 #[.val (.int u0), .val (.int u1), .val (.int u2), .val (.int u3), .val (.int u4), .val (.int u5), .val (.int (1 : Int32)), .val (.int ((1 : Int32) + ((u5 &&& (2147483647 : Int32)) % (6 : Int32)))), .val (.int ((128 : Int32) ||| (u0 &&& (127 : Int32)))), .val (.ref b78), .unset] [(.int (((128 : Int32) ||| (u0 &&& (127 : Int32))).toInt8.toInt32)), (.int (1 : Int32)), (.ref b78)])) rfl rfl (hb hby at_62)
    have Z0 := Nat.le_trans Z0 (Keep.of_wr W81).1
    have V_b78 : Arv Z h81 b78 k78 .byte (6 : Int32) [(.int (nar .byte (((u4.toUInt32 >>> ((8 : Int32) &&& 31).toUInt32).toInt32).toInt8.toInt32))), (.int (nar .byte (((128 : Int32) ||| (u0 &&& (127 : Int32))).toInt8.toInt32))), (.int (0 : Int32)), (.int (0 : Int32)), (.int (0 : Int32)), (.int (nar .byte (((u4.toUInt32 >>> ((16 : Int32) &&& 31).toUInt32).toInt32).toInt8.toInt32)))] (.int (0 : Int32)) := Arv.set Ar81 q81 S81 N81 Hh81 G81 (fits_nar_byte _) W81 1 rfl (Nat.le_of_ble_eq_true rfl)
    have NF := Fr.snoc X81 NF g_b78
    refine Gl.go ?_ st81
    show Gl _ _ _ _ (T81.setTop (mkF m 63 #[.val (.int u0), .val (.int u1), .val (.int u2), .val (.int u3), .val (.int u4), .val (.int u5), .val (.int (1 : Int32)), .val (.int ((1 : Int32) + ((u5 &&& (2147483647 : Int32)) % (6 : Int32)))), .val (.int ((128 : Int32) ||| (u0 &&& (127 : Int32)))), .val (.ref b78), .unset] []))
    refine Gl.go ?_ (fun t k => XS.aload X81.here hx rfl (hb hby at_63) rfl rfl k)
    show Gl _ _ _ _ (T81.setTop (mkF m 65 #[.val (.int u0), .val (.int u1), .val (.int u2), .val (.int u3), .val (.int u4), .val (.int u5), .val (.int (1 : Int32)), .val (.int ((1 : Int32) + ((u5 &&& (2147483647 : Int32)) % (6 : Int32)))), .val (.int ((128 : Int32) ||| (u0 &&& (127 : Int32)))), .val (.ref b78), .unset] [(.ref b78)]))
    refine Gl.go ?_ (fun t k => XS.iload X81.here hx rfl (hb hby at_65) rfl k)
    show Gl _ _ _ _ (T81.setTop (mkF m 67 #[.val (.int u0), .val (.int u1), .val (.int u2), .val (.int u3), .val (.int u4), .val (.int u5), .val (.int (1 : Int32)), .val (.int ((1 : Int32) + ((u5 &&& (2147483647 : Int32)) % (6 : Int32)))), .val (.int ((128 : Int32) ||| (u0 &&& (127 : Int32)))), .val (.ref b78), .unset] [(.int (1 : Int32)), (.ref b78)]))
    refine Gl.go ?_ (fun t k => XS.iconst X81.here hx rfl (hb hby at_67) k)
    show Gl _ _ _ _ (T81.setTop (mkF m 68 #[.val (.int u0), .val (.int u1), .val (.int u2), .val (.int u3), .val (.int u4), .val (.int u5), .val (.int (1 : Int32)), .val (.int ((1 : Int32) + ((u5 &&& (2147483647 : Int32)) % (6 : Int32)))), .val (.int ((128 : Int32) ||| (u0 &&& (127 : Int32)))), .val (.ref b78), .unset] [(.int (1 : Int32)), (.int (1 : Int32)), (.ref b78)]))
    refine Gl.go ?_ (fun t k => XS.iadd X81.here hx rfl (hb hby at_68) rfl k)
    show Gl _ _ _ _ (T81.setTop (mkF m 69 #[.val (.int u0), .val (.int u1), .val (.int u2), .val (.int u3), .val (.int u4), .val (.int u5), .val (.int (1 : Int32)), .val (.int ((1 : Int32) + ((u5 &&& (2147483647 : Int32)) % (6 : Int32)))), .val (.int ((128 : Int32) ||| (u0 &&& (127 : Int32)))), .val (.ref b78), .unset] [(.int (2 : Int32)), (.ref b78)]))
    refine Gl.go ?_ (fun t k => XS.iloadN X81.here hx rfl (hb hby at_69) rfl k)
    show Gl _ _ _ _ (T81.setTop (mkF m 70 #[.val (.int u0), .val (.int u1), .val (.int u2), .val (.int u3), .val (.int u4), .val (.int u5), .val (.int (1 : Int32)), .val (.int ((1 : Int32) + ((u5 &&& (2147483647 : Int32)) % (6 : Int32)))), .val (.int ((128 : Int32) ||| (u0 &&& (127 : Int32)))), .val (.ref b78), .unset] [(.int u1), (.int (2 : Int32)), (.ref b78)]))
    refine Gl.go ?_ (fun t k => XS.i2b X81.here hx rfl (hb hby at_70) rfl k)
    show Gl _ _ _ _ (T81.setTop (mkF m 71 #[.val (.int u0), .val (.int u1), .val (.int u2), .val (.int u3), .val (.int u4), .val (.int u5), .val (.int (1 : Int32)), .val (.int ((1 : Int32) + ((u5 &&& (2147483647 : Int32)) % (6 : Int32)))), .val (.int ((128 : Int32) ||| (u0 &&& (127 : Int32)))), .val (.ref b78), .unset] [(.int (u1.toInt8.toInt32)), (.int (2 : Int32)), (.ref b78)]))
    obtain ⟨cl82, Ar82, q82, S82, N82, Hh82, G82⟩ := V_b78
    obtain ⟨T82, h82, X82, e82, W82, st82⟩ := stB X81 hx hZ e81 Ar82 (j := (2 : Int32)) (inb_of S82 ⟨by decide, by decide⟩) (g := (mkF m 71 #[.val (.int u0), .val (.int u1), .val (.int u2), .val (.int u3), .val (.int u4), .val (.int u5), .val (.int (1 : Int32)), .val (.int ((1 : Int32) + ((u5 &&& (2147483647 : Int32)) % (6 : Int32)))), .val (.int ((128 : Int32) ||| (u0 &&& (127 : Int32)))), .val (.ref b78), .unset] [(.int (u1.toInt8.toInt32)), (.int (2 : Int32)), (.ref b78)])) rfl rfl (hb hby at_71)
    have Z0 := Nat.le_trans Z0 (Keep.of_wr W82).1
    have V_b78 : Arv Z h82 b78 k78 .byte (6 : Int32) [(.int (nar .byte (((u4.toUInt32 >>> ((8 : Int32) &&& 31).toUInt32).toInt32).toInt8.toInt32))), (.int (nar .byte (((128 : Int32) ||| (u0 &&& (127 : Int32))).toInt8.toInt32))), (.int (nar .byte (u1.toInt8.toInt32))), (.int (0 : Int32)), (.int (0 : Int32)), (.int (nar .byte (((u4.toUInt32 >>> ((16 : Int32) &&& 31).toUInt32).toInt32).toInt8.toInt32)))] (.int (0 : Int32)) := Arv.set Ar82 q82 S82 N82 Hh82 G82 (fits_nar_byte _) W82 2 rfl (Nat.le_of_ble_eq_true rfl)
    have NF := Fr.snoc X82 NF g_b78
    refine Gl.go ?_ st82
    show Gl _ _ _ _ (T82.setTop (mkF m 72 #[.val (.int u0), .val (.int u1), .val (.int u2), .val (.int u3), .val (.int u4), .val (.int u5), .val (.int (1 : Int32)), .val (.int ((1 : Int32) + ((u5 &&& (2147483647 : Int32)) % (6 : Int32)))), .val (.int ((128 : Int32) ||| (u0 &&& (127 : Int32)))), .val (.ref b78), .unset] []))
    refine Gl.go ?_ (fun t k => XS.aload X82.here hx rfl (hb hby at_72) rfl rfl k)
    show Gl _ _ _ _ (T82.setTop (mkF m 74 #[.val (.int u0), .val (.int u1), .val (.int u2), .val (.int u3), .val (.int u4), .val (.int u5), .val (.int (1 : Int32)), .val (.int ((1 : Int32) + ((u5 &&& (2147483647 : Int32)) % (6 : Int32)))), .val (.int ((128 : Int32) ||| (u0 &&& (127 : Int32)))), .val (.ref b78), .unset] [(.ref b78)]))
    refine Gl.go ?_ (fun t k => XS.iload X82.here hx rfl (hb hby at_74) rfl k)
    show Gl _ _ _ _ (T82.setTop (mkF m 76 #[.val (.int u0), .val (.int u1), .val (.int u2), .val (.int u3), .val (.int u4), .val (.int u5), .val (.int (1 : Int32)), .val (.int ((1 : Int32) + ((u5 &&& (2147483647 : Int32)) % (6 : Int32)))), .val (.int ((128 : Int32) ||| (u0 &&& (127 : Int32)))), .val (.ref b78), .unset] [(.int (1 : Int32)), (.ref b78)]))
    refine Gl.go ?_ (fun t k => XS.iconst X82.here hx rfl (hb hby at_76) k)
    show Gl _ _ _ _ (T82.setTop (mkF m 77 #[.val (.int u0), .val (.int u1), .val (.int u2), .val (.int u3), .val (.int u4), .val (.int u5), .val (.int (1 : Int32)), .val (.int ((1 : Int32) + ((u5 &&& (2147483647 : Int32)) % (6 : Int32)))), .val (.int ((128 : Int32) ||| (u0 &&& (127 : Int32)))), .val (.ref b78), .unset] [(.int (2 : Int32)), (.int (1 : Int32)), (.ref b78)]))
    refine Gl.go ?_ (fun t k => XS.iadd X82.here hx rfl (hb hby at_77) rfl k)
    show Gl _ _ _ _ (T82.setTop (mkF m 78 #[.val (.int u0), .val (.int u1), .val (.int u2), .val (.int u3), .val (.int u4), .val (.int u5), .val (.int (1 : Int32)), .val (.int ((1 : Int32) + ((u5 &&& (2147483647 : Int32)) % (6 : Int32)))), .val (.int ((128 : Int32) ||| (u0 &&& (127 : Int32)))), .val (.ref b78), .unset] [(.int (3 : Int32)), (.ref b78)]))
    refine Gl.go ?_ (fun t k => XS.iloadN X82.here hx rfl (hb hby at_78) rfl k)
    show Gl _ _ _ _ (T82.setTop (mkF m 79 #[.val (.int u0), .val (.int u1), .val (.int u2), .val (.int u3), .val (.int u4), .val (.int u5), .val (.int (1 : Int32)), .val (.int ((1 : Int32) + ((u5 &&& (2147483647 : Int32)) % (6 : Int32)))), .val (.int ((128 : Int32) ||| (u0 &&& (127 : Int32)))), .val (.ref b78), .unset] [(.int u2), (.int (3 : Int32)), (.ref b78)]))
    refine Gl.go ?_ (fun t k => XS.i2b X82.here hx rfl (hb hby at_79) rfl k)
    show Gl _ _ _ _ (T82.setTop (mkF m 80 #[.val (.int u0), .val (.int u1), .val (.int u2), .val (.int u3), .val (.int u4), .val (.int u5), .val (.int (1 : Int32)), .val (.int ((1 : Int32) + ((u5 &&& (2147483647 : Int32)) % (6 : Int32)))), .val (.int ((128 : Int32) ||| (u0 &&& (127 : Int32)))), .val (.ref b78), .unset] [(.int (u2.toInt8.toInt32)), (.int (3 : Int32)), (.ref b78)]))
    obtain ⟨cl83, Ar83, q83, S83, N83, Hh83, G83⟩ := V_b78
    obtain ⟨T83, h83, X83, e83, W83, st83⟩ := stB X82 hx hZ e82 Ar83 (j := (3 : Int32)) (inb_of S83 ⟨by decide, by decide⟩) (g := (mkF m 80 #[.val (.int u0), .val (.int u1), .val (.int u2), .val (.int u3), .val (.int u4), .val (.int u5), .val (.int (1 : Int32)), .val (.int ((1 : Int32) + ((u5 &&& (2147483647 : Int32)) % (6 : Int32)))), .val (.int ((128 : Int32) ||| (u0 &&& (127 : Int32)))), .val (.ref b78), .unset] [(.int (u2.toInt8.toInt32)), (.int (3 : Int32)), (.ref b78)])) rfl rfl (hb hby at_80)
    have Z0 := Nat.le_trans Z0 (Keep.of_wr W83).1
    have V_b78 : Arv Z h83 b78 k78 .byte (6 : Int32) [(.int (nar .byte (((u4.toUInt32 >>> ((8 : Int32) &&& 31).toUInt32).toInt32).toInt8.toInt32))), (.int (nar .byte (((128 : Int32) ||| (u0 &&& (127 : Int32))).toInt8.toInt32))), (.int (nar .byte (u1.toInt8.toInt32))), (.int (nar .byte (u2.toInt8.toInt32))), (.int (0 : Int32)), (.int (nar .byte (((u4.toUInt32 >>> ((16 : Int32) &&& 31).toUInt32).toInt32).toInt8.toInt32)))] (.int (0 : Int32)) := Arv.set Ar83 q83 S83 N83 Hh83 G83 (fits_nar_byte _) W83 3 rfl (Nat.le_of_ble_eq_true rfl)
    have NF := Fr.snoc X83 NF g_b78
    refine Gl.go ?_ st83
    show Gl _ _ _ _ (T83.setTop (mkF m 81 #[.val (.int u0), .val (.int u1), .val (.int u2), .val (.int u3), .val (.int u4), .val (.int u5), .val (.int (1 : Int32)), .val (.int ((1 : Int32) + ((u5 &&& (2147483647 : Int32)) % (6 : Int32)))), .val (.int ((128 : Int32) ||| (u0 &&& (127 : Int32)))), .val (.ref b78), .unset] []))
    refine Gl.go ?_ (fun t k => XS.aload X83.here hx rfl (hb hby at_81) rfl rfl k)
    show Gl _ _ _ _ (T83.setTop (mkF m 83 #[.val (.int u0), .val (.int u1), .val (.int u2), .val (.int u3), .val (.int u4), .val (.int u5), .val (.int (1 : Int32)), .val (.int ((1 : Int32) + ((u5 &&& (2147483647 : Int32)) % (6 : Int32)))), .val (.int ((128 : Int32) ||| (u0 &&& (127 : Int32)))), .val (.ref b78), .unset] [(.ref b78)]))
    refine Gl.go ?_ (fun t k => XS.iload X83.here hx rfl (hb hby at_83) rfl k)
    show Gl _ _ _ _ (T83.setTop (mkF m 85 #[.val (.int u0), .val (.int u1), .val (.int u2), .val (.int u3), .val (.int u4), .val (.int u5), .val (.int (1 : Int32)), .val (.int ((1 : Int32) + ((u5 &&& (2147483647 : Int32)) % (6 : Int32)))), .val (.int ((128 : Int32) ||| (u0 &&& (127 : Int32)))), .val (.ref b78), .unset] [(.int (1 : Int32)), (.ref b78)]))
    refine Gl.go ?_ (fun t k => XS.iconst X83.here hx rfl (hb hby at_85) k)
    show Gl _ _ _ _ (T83.setTop (mkF m 86 #[.val (.int u0), .val (.int u1), .val (.int u2), .val (.int u3), .val (.int u4), .val (.int u5), .val (.int (1 : Int32)), .val (.int ((1 : Int32) + ((u5 &&& (2147483647 : Int32)) % (6 : Int32)))), .val (.int ((128 : Int32) ||| (u0 &&& (127 : Int32)))), .val (.ref b78), .unset] [(.int (3 : Int32)), (.int (1 : Int32)), (.ref b78)]))
    refine Gl.go ?_ (fun t k => XS.iadd X83.here hx rfl (hb hby at_86) rfl k)
    show Gl _ _ _ _ (T83.setTop (mkF m 87 #[.val (.int u0), .val (.int u1), .val (.int u2), .val (.int u3), .val (.int u4), .val (.int u5), .val (.int (1 : Int32)), .val (.int ((1 : Int32) + ((u5 &&& (2147483647 : Int32)) % (6 : Int32)))), .val (.int ((128 : Int32) ||| (u0 &&& (127 : Int32)))), .val (.ref b78), .unset] [(.int (4 : Int32)), (.ref b78)]))
    refine Gl.go ?_ (fun t k => XS.iloadN X83.here hx rfl (hb hby at_87) rfl k)
    show Gl _ _ _ _ (T83.setTop (mkF m 88 #[.val (.int u0), .val (.int u1), .val (.int u2), .val (.int u3), .val (.int u4), .val (.int u5), .val (.int (1 : Int32)), .val (.int ((1 : Int32) + ((u5 &&& (2147483647 : Int32)) % (6 : Int32)))), .val (.int ((128 : Int32) ||| (u0 &&& (127 : Int32)))), .val (.ref b78), .unset] [(.int u3), (.int (4 : Int32)), (.ref b78)]))
    refine Gl.go ?_ (fun t k => XS.i2b X83.here hx rfl (hb hby at_88) rfl k)
    show Gl _ _ _ _ (T83.setTop (mkF m 89 #[.val (.int u0), .val (.int u1), .val (.int u2), .val (.int u3), .val (.int u4), .val (.int u5), .val (.int (1 : Int32)), .val (.int ((1 : Int32) + ((u5 &&& (2147483647 : Int32)) % (6 : Int32)))), .val (.int ((128 : Int32) ||| (u0 &&& (127 : Int32)))), .val (.ref b78), .unset] [(.int (u3.toInt8.toInt32)), (.int (4 : Int32)), (.ref b78)]))
    obtain ⟨cl84, Ar84, q84, S84, N84, Hh84, G84⟩ := V_b78
    obtain ⟨T84, h84, X84, e84, W84, st84⟩ := stB X83 hx hZ e83 Ar84 (j := (4 : Int32)) (inb_of S84 ⟨by decide, by decide⟩) (g := (mkF m 89 #[.val (.int u0), .val (.int u1), .val (.int u2), .val (.int u3), .val (.int u4), .val (.int u5), .val (.int (1 : Int32)), .val (.int ((1 : Int32) + ((u5 &&& (2147483647 : Int32)) % (6 : Int32)))), .val (.int ((128 : Int32) ||| (u0 &&& (127 : Int32)))), .val (.ref b78), .unset] [(.int (u3.toInt8.toInt32)), (.int (4 : Int32)), (.ref b78)])) rfl rfl (hb hby at_89)
    have Z0 := Nat.le_trans Z0 (Keep.of_wr W84).1
    have V_b78 : Arv Z h84 b78 k78 .byte (6 : Int32) [(.int (nar .byte (((u4.toUInt32 >>> ((8 : Int32) &&& 31).toUInt32).toInt32).toInt8.toInt32))), (.int (nar .byte (((128 : Int32) ||| (u0 &&& (127 : Int32))).toInt8.toInt32))), (.int (nar .byte (u1.toInt8.toInt32))), (.int (nar .byte (u2.toInt8.toInt32))), (.int (nar .byte (u3.toInt8.toInt32))), (.int (nar .byte (((u4.toUInt32 >>> ((16 : Int32) &&& 31).toUInt32).toInt32).toInt8.toInt32)))] (.int (0 : Int32)) := Arv.set Ar84 q84 S84 N84 Hh84 G84 (fits_nar_byte _) W84 4 rfl (Nat.le_of_ble_eq_true rfl)
    have NF := Fr.snoc X84 NF g_b78
    refine Gl.go ?_ st84
    show Gl _ _ _ _ (T84.setTop (mkF m 90 #[.val (.int u0), .val (.int u1), .val (.int u2), .val (.int u3), .val (.int u4), .val (.int u5), .val (.int (1 : Int32)), .val (.int ((1 : Int32) + ((u5 &&& (2147483647 : Int32)) % (6 : Int32)))), .val (.int ((128 : Int32) ||| (u0 &&& (127 : Int32)))), .val (.ref b78), .unset] []))
    refine Gl.go ?_ (fun t k => XS.aload X84.here hx rfl (hb hby at_90) rfl rfl k)
    show Gl _ _ _ _ (T84.setTop (mkF m 92 #[.val (.int u0), .val (.int u1), .val (.int u2), .val (.int u3), .val (.int u4), .val (.int u5), .val (.int (1 : Int32)), .val (.int ((1 : Int32) + ((u5 &&& (2147483647 : Int32)) % (6 : Int32)))), .val (.int ((128 : Int32) ||| (u0 &&& (127 : Int32)))), .val (.ref b78), .unset] [(.ref b78)]))
    refine Gl.go ?_ (fun t k => XS.iload X84.here hx rfl (hb hby at_92) rfl k)
    show Gl _ _ _ _ (T84.setTop (mkF m 94 #[.val (.int u0), .val (.int u1), .val (.int u2), .val (.int u3), .val (.int u4), .val (.int u5), .val (.int (1 : Int32)), .val (.int ((1 : Int32) + ((u5 &&& (2147483647 : Int32)) % (6 : Int32)))), .val (.int ((128 : Int32) ||| (u0 &&& (127 : Int32)))), .val (.ref b78), .unset] [(.int (1 : Int32)), (.ref b78)]))
    refine Gl.go ?_ (fun t k => XS.iload X84.here hx rfl (hb hby at_94) rfl k)
    show Gl _ _ _ _ (T84.setTop (mkF m 96 #[.val (.int u0), .val (.int u1), .val (.int u2), .val (.int u3), .val (.int u4), .val (.int u5), .val (.int (1 : Int32)), .val (.int ((1 : Int32) + ((u5 &&& (2147483647 : Int32)) % (6 : Int32)))), .val (.int ((128 : Int32) ||| (u0 &&& (127 : Int32)))), .val (.ref b78), .unset] [(.int ((1 : Int32) + ((u5 &&& (2147483647 : Int32)) % (6 : Int32)))), (.int (1 : Int32)), (.ref b78)]))
    have hB : BA Z h84 b78 .byte (6 : Int32) (own_bs1 u0 u1 u2 u3 u4) := BA.of [(nar .byte (((u4.toUInt32 >>> ((8 : Int32) &&& 31).toUInt32).toInt32).toInt8.toInt32)), (nar .byte (((128 : Int32) ||| (u0 &&& (127 : Int32))).toInt8.toInt32)), (nar .byte (u1.toInt8.toInt32)), (nar .byte (u2.toInt8.toInt32)), (nar .byte (u3.toInt8.toInt32)), (nar .byte (((u4.toUInt32 >>> ((16 : Int32) &&& 31).toUInt32).toInt32).toInt8.toInt32))] V_b78 (Nat.le_of_eq rfl)
    obtain ⟨_, _, ⟨T85, L85, k85, n85⟩, -, X85, ⟨Lc85, hQ85, l85, y85, z85⟩, st85⟩ := Jvm.LawKit.callS X84 hx (y := (⟨"com/example/litera/litera/Utf8", "sequenceEnd", "([BII)I"⟩ : MethodName)) hown (mvT hZ (hw _ (List.mem_of_getElem? (i := 2) rfl))) (mvT hZ (hw _ (List.mem_of_getElem? (i := 3) rfl))) (mvT hZ (hw _ (List.mem_of_getElem? (i := 4) rfl))) (mvT hZ (hw _ (List.mem_of_getElem? (i := 5) rfl))) (by decide) (backOf (W := 0) (rm1 l Z a0 hw [] b78 (1 : Int32) ((1 : Int32) + ((u5 &&& (2147483647 : Int32)) % (6 : Int32))) (own_bs1 u0 u1 u2 u3 u4) h84 hB (by decide) (by decide) (by decide) (by decide)) hZ (hw _ (List.mem_of_getElem? (i := 5) rfl)) (hw _ (List.mem_of_getElem? (i := 4) rfl)) (by decide) (by decide)) (g := (mkF m 96 #[.val (.int u0), .val (.int u1), .val (.int u2), .val (.int u3), .val (.int u4), .val (.int u5), .val (.int (1 : Int32)), .val (.int ((1 : Int32) + ((u5 &&& (2147483647 : Int32)) % (6 : Int32)))), .val (.int ((128 : Int32) ||| (u0 &&& (127 : Int32)))), .val (.ref b78), .unset] [(.int ((1 : Int32) + ((u5 &&& (2147483647 : Int32)) % (6 : Int32)))), (.int (1 : Int32)), (.ref b78)])) rfl (by rw [hml]; rfl) (argsL := [(.ref b78), (.int (1 : Int32)), (.int ((1 : Int32) + ((u5 &&& (2147483647 : Int32)) % (6 : Int32))))]) (rest := []) (lenOf pd_1 rfl) rfl (by show 2 * 0 + _ ≤ _; exact Nat.le_of_eq rfl) (hb hby at_96) (fun _ _ => ⟨rfl, e84, (by decide : 1 + 0 ≤ _), (by decide : 6 + 0 ≤ _)⟩)
    dsimp only [Pt.U, Pt.locs, Pt.cells, Pt.slots] at X85 l85 y85 z85 st85 hQ85
    subst l85 y85 z85
    obtain ⟨rfl, rfl, e85⟩ := hQ85
    have NF := Fr.app NF (Fr.nil n0)
    refine Gl.go ?_ st85
    show Gl _ _ _ _ (T85.setTop (mkF m 99 #[.val (.int u0), .val (.int u1), .val (.int u2), .val (.int u3), .val (.int u4), .val (.int u5), .val (.int (1 : Int32)), .val (.int ((1 : Int32) + ((u5 &&& (2147483647 : Int32)) % (6 : Int32)))), .val (.int ((128 : Int32) ||| (u0 &&& (127 : Int32)))), .val (.ref b78), .unset] [(.int (f_seq (1 : Int32) ((1 : Int32) + ((u5 &&& (2147483647 : Int32)) % (6 : Int32))) (own_bs1 u0 u1 u2 u3 u4)))]))
    refine Gl.go ?_ (fun t k => XS.istore X85.here hx rfl (hb hby at_99) rfl (l' := #[.val (.int u0), .val (.int u1), .val (.int u2), .val (.int u3), .val (.int u4), .val (.int u5), .val (.int (1 : Int32)), .val (.int ((1 : Int32) + ((u5 &&& (2147483647 : Int32)) % (6 : Int32)))), .val (.int ((128 : Int32) ||| (u0 &&& (127 : Int32)))), .val (.ref b78), .val (.int (f_seq (1 : Int32) ((1 : Int32) + ((u5 &&& (2147483647 : Int32)) % (6 : Int32))) (own_bs1 u0 u1 u2 u3 u4)))]) rfl k)
    show Gl _ _ _ _ (T85.setTop (mkF m 101 #[.val (.int u0), .val (.int u1), .val (.int u2), .val (.int u3), .val (.int u4), .val (.int u5), .val (.int (1 : Int32)), .val (.int ((1 : Int32) + ((u5 &&& (2147483647 : Int32)) % (6 : Int32)))), .val (.int ((128 : Int32) ||| (u0 &&& (127 : Int32)))), .val (.ref b78), .val (.int (f_seq (1 : Int32) ((1 : Int32) + ((u5 &&& (2147483647 : Int32)) % (6 : Int32))) (own_bs1 u0 u1 u2 u3 u4)))] []))
    refine Gl.go ?_ (fun t k => XS.iload X85.here hx rfl (hb hby at_101) rfl k)
    show Gl _ _ _ _ (T85.setTop (mkF m 103 #[.val (.int u0), .val (.int u1), .val (.int u2), .val (.int u3), .val (.int u4), .val (.int u5), .val (.int (1 : Int32)), .val (.int ((1 : Int32) + ((u5 &&& (2147483647 : Int32)) % (6 : Int32)))), .val (.int ((128 : Int32) ||| (u0 &&& (127 : Int32)))), .val (.ref b78), .val (.int (f_seq (1 : Int32) ((1 : Int32) + ((u5 &&& (2147483647 : Int32)) % (6 : Int32))) (own_bs1 u0 u1 u2 u3 u4)))] [(.int (f_seq (1 : Int32) ((1 : Int32) + ((u5 &&& (2147483647 : Int32)) % (6 : Int32))) (own_bs1 u0 u1 u2 u3 u4)))]))
    refine Gl.go ?_ (fun t k => XS.iload X85.here hx rfl (hb hby at_103) rfl k)
    show Gl _ _ _ _ (T85.setTop (mkF m 105 #[.val (.int u0), .val (.int u1), .val (.int u2), .val (.int u3), .val (.int u4), .val (.int u5), .val (.int (1 : Int32)), .val (.int ((1 : Int32) + ((u5 &&& (2147483647 : Int32)) % (6 : Int32)))), .val (.int ((128 : Int32) ||| (u0 &&& (127 : Int32)))), .val (.ref b78), .val (.int (f_seq (1 : Int32) ((1 : Int32) + ((u5 &&& (2147483647 : Int32)) % (6 : Int32))) (own_bs1 u0 u1 u2 u3 u4)))] [(.int ((128 : Int32) ||| (u0 &&& (127 : Int32)))), (.int (f_seq (1 : Int32) ((1 : Int32) + ((u5 &&& (2147483647 : Int32)) % (6 : Int32))) (own_bs1 u0 u1 u2 u3 u4)))]))
    refine Gl.go ?_ (fun t k => XS.iloadN X85.here hx rfl (hb hby at_105) rfl k)
    show Gl _ _ _ _ (T85.setTop (mkF m 106 #[.val (.int u0), .val (.int u1), .val (.int u2), .val (.int u3), .val (.int u4), .val (.int u5), .val (.int (1 : Int32)), .val (.int ((1 : Int32) + ((u5 &&& (2147483647 : Int32)) % (6 : Int32)))), .val (.int ((128 : Int32) ||| (u0 &&& (127 : Int32)))), .val (.ref b78), .val (.int (f_seq (1 : Int32) ((1 : Int32) + ((u5 &&& (2147483647 : Int32)) % (6 : Int32))) (own_bs1 u0 u1 u2 u3 u4)))] [(.int u1), (.int ((128 : Int32) ||| (u0 &&& (127 : Int32)))), (.int (f_seq (1 : Int32) ((1 : Int32) + ((u5 &&& (2147483647 : Int32)) % (6 : Int32))) (own_bs1 u0 u1 u2 u3 u4)))]))
    refine Gl.go ?_ (fun t k => XS.sipush X85.here hx rfl (hb hby at_106) k)
    show Gl _ _ _ _ (T85.setTop (mkF m 109 #[.val (.int u0), .val (.int u1), .val (.int u2), .val (.int u3), .val (.int u4), .val (.int u5), .val (.int (1 : Int32)), .val (.int ((1 : Int32) + ((u5 &&& (2147483647 : Int32)) % (6 : Int32)))), .val (.int ((128 : Int32) ||| (u0 &&& (127 : Int32)))), .val (.ref b78), .val (.int (f_seq (1 : Int32) ((1 : Int32) + ((u5 &&& (2147483647 : Int32)) % (6 : Int32))) (own_bs1 u0 u1 u2 u3 u4)))] [(.int (255 : Int32)), (.int u1), (.int ((128 : Int32) ||| (u0 &&& (127 : Int32)))), (.int (f_seq (1 : Int32) ((1 : Int32) + ((u5 &&& (2147483647 : Int32)) % (6 : Int32))) (own_bs1 u0 u1 u2 u3 u4)))]))
    refine Gl.go ?_ (fun t k => XS.iand X85.here hx rfl (hb hby at_109) rfl k)
    show Gl _ _ _ _ (T85.setTop (mkF m 110 #[.val (.int u0), .val (.int u1), .val (.int u2), .val (.int u3), .val (.int u4), .val (.int u5), .val (.int (1 : Int32)), .val (.int ((1 : Int32) + ((u5 &&& (2147483647 : Int32)) % (6 : Int32)))), .val (.int ((128 : Int32) ||| (u0 &&& (127 : Int32)))), .val (.ref b78), .val (.int (f_seq (1 : Int32) ((1 : Int32) + ((u5 &&& (2147483647 : Int32)) % (6 : Int32))) (own_bs1 u0 u1 u2 u3 u4)))] [(.int (u1 &&& (255 : Int32))), (.int ((128 : Int32) ||| (u0 &&& (127 : Int32)))), (.int (f_seq (1 : Int32) ((1 : Int32) + ((u5 &&& (2147483647 : Int32)) % (6 : Int32))) (own_bs1 u0 u1 u2 u3 u4)))]))
    refine Gl.go ?_ (fun t k => XS.iloadN X85.here hx rfl (hb hby at_110) rfl k)
    show Gl _ _ _ _ (T85.setTop (mkF m 111 #[.val (.int u0), .val (.int u1), .val (.int u2), .val (.int u3), .val (.int u4), .val (.int u5), .val (.int (1 : Int32)), .val (.int ((1 : Int32) + ((u5 &&& (2147483647 : Int32)) % (6 : Int32)))), .val (.int ((128 : Int32) ||| (u0 &&& (127 : Int32)))), .val (.ref b78), .val (.int (f_seq (1 : Int32) ((1 : Int32) + ((u5 &&& (2147483647 : Int32)) % (6 : Int32))) (own_bs1 u0 u1 u2 u3 u4)))] [(.int u2), (.int (u1 &&& (255 : Int32))), (.int ((128 : Int32) ||| (u0 &&& (127 : Int32)))), (.int (f_seq (1 : Int32) ((1 : Int32) + ((u5 &&& (2147483647 : Int32)) % (6 : Int32))) (own_bs1 u0 u1 u2 u3 u4)))]))
    refine Gl.go ?_ (fun t k => XS.sipush X85.here hx rfl (hb hby at_111) k)
    show Gl _ _ _ _ (T85.setTop (mkF m 114 #[.val (.int u0), .val (.int u1), .val (.int u2), .val (.int u3), .val (.int u4), .val (.int u5), .val (.int (1 : Int32)), .val (.int ((1 : Int32) + ((u5 &&& (2147483647 : Int32)) % (6 : Int32)))), .val (.int ((128 : Int32) ||| (u0 &&& (127 : Int32)))), .val (.ref b78), .val (.int (f_seq (1 : Int32) ((1 : Int32) + ((u5 &&& (2147483647 : Int32)) % (6 : Int32))) (own_bs1 u0 u1 u2 u3 u4)))] [(.int (255 : Int32)), (.int u2), (.int (u1 &&& (255 : Int32))), (.int ((128 : Int32) ||| (u0 &&& (127 : Int32)))), (.int (f_seq (1 : Int32) ((1 : Int32) + ((u5 &&& (2147483647 : Int32)) % (6 : Int32))) (own_bs1 u0 u1 u2 u3 u4)))]))
    refine Gl.go ?_ (fun t k => XS.iand X85.here hx rfl (hb hby at_114) rfl k)
    show Gl _ _ _ _ (T85.setTop (mkF m 115 #[.val (.int u0), .val (.int u1), .val (.int u2), .val (.int u3), .val (.int u4), .val (.int u5), .val (.int (1 : Int32)), .val (.int ((1 : Int32) + ((u5 &&& (2147483647 : Int32)) % (6 : Int32)))), .val (.int ((128 : Int32) ||| (u0 &&& (127 : Int32)))), .val (.ref b78), .val (.int (f_seq (1 : Int32) ((1 : Int32) + ((u5 &&& (2147483647 : Int32)) % (6 : Int32))) (own_bs1 u0 u1 u2 u3 u4)))] [(.int (u2 &&& (255 : Int32))), (.int (u1 &&& (255 : Int32))), (.int ((128 : Int32) ||| (u0 &&& (127 : Int32)))), (.int (f_seq (1 : Int32) ((1 : Int32) + ((u5 &&& (2147483647 : Int32)) % (6 : Int32))) (own_bs1 u0 u1 u2 u3 u4)))]))
    refine Gl.go ?_ (fun t k => XS.iloadN X85.here hx rfl (hb hby at_115) rfl k)
    show Gl _ _ _ _ (T85.setTop (mkF m 116 #[.val (.int u0), .val (.int u1), .val (.int u2), .val (.int u3), .val (.int u4), .val (.int u5), .val (.int (1 : Int32)), .val (.int ((1 : Int32) + ((u5 &&& (2147483647 : Int32)) % (6 : Int32)))), .val (.int ((128 : Int32) ||| (u0 &&& (127 : Int32)))), .val (.ref b78), .val (.int (f_seq (1 : Int32) ((1 : Int32) + ((u5 &&& (2147483647 : Int32)) % (6 : Int32))) (own_bs1 u0 u1 u2 u3 u4)))] [(.int u3), (.int (u2 &&& (255 : Int32))), (.int (u1 &&& (255 : Int32))), (.int ((128 : Int32) ||| (u0 &&& (127 : Int32)))), (.int (f_seq (1 : Int32) ((1 : Int32) + ((u5 &&& (2147483647 : Int32)) % (6 : Int32))) (own_bs1 u0 u1 u2 u3 u4)))]))
    refine Gl.go ?_ (fun t k => XS.sipush X85.here hx rfl (hb hby at_116) k)
    show Gl _ _ _ _ (T85.setTop (mkF m 119 #[.val (.int u0), .val (.int u1), .val (.int u2), .val (.int u3), .val (.int u4), .val (.int u5), .val (.int (1 : Int32)), .val (.int ((1 : Int32) + ((u5 &&& (2147483647 : Int32)) % (6 : Int32)))), .val (.int ((128 : Int32) ||| (u0 &&& (127 : Int32)))), .val (.ref b78), .val (.int (f_seq (1 : Int32) ((1 : Int32) + ((u5 &&& (2147483647 : Int32)) % (6 : Int32))) (own_bs1 u0 u1 u2 u3 u4)))] [(.int (255 : Int32)), (.int u3), (.int (u2 &&& (255 : Int32))), (.int (u1 &&& (255 : Int32))), (.int ((128 : Int32) ||| (u0 &&& (127 : Int32)))), (.int (f_seq (1 : Int32) ((1 : Int32) + ((u5 &&& (2147483647 : Int32)) % (6 : Int32))) (own_bs1 u0 u1 u2 u3 u4)))]))
    refine Gl.go ?_ (fun t k => XS.iand X85.here hx rfl (hb hby at_119) rfl k)
    show Gl _ _ _ _ (T85.setTop (mkF m 120 #[.val (.int u0), .val (.int u1), .val (.int u2), .val (.int u3), .val (.int u4), .val (.int u5), .val (.int (1 : Int32)), .val (.int ((1 : Int32) + ((u5 &&& (2147483647 : Int32)) % (6 : Int32)))), .val (.int ((128 : Int32) ||| (u0 &&& (127 : Int32)))), .val (.ref b78), .val (.int (f_seq (1 : Int32) ((1 : Int32) + ((u5 &&& (2147483647 : Int32)) % (6 : Int32))) (own_bs1 u0 u1 u2 u3 u4)))] [(.int (u3 &&& (255 : Int32))), (.int (u2 &&& (255 : Int32))), (.int (u1 &&& (255 : Int32))), (.int ((128 : Int32) ||| (u0 &&& (127 : Int32)))), (.int (f_seq (1 : Int32) ((1 : Int32) + ((u5 &&& (2147483647 : Int32)) % (6 : Int32))) (own_bs1 u0 u1 u2 u3 u4)))]))
    refine Gl.go ?_ (fun t k => XS.iload X85.here hx rfl (hb hby at_120) rfl k)
    show Gl _ _ _ _ (T85.setTop (mkF m 122 #[.val (.int u0), .val (.int u1), .val (.int u2), .val (.int u3), .val (.int u4), .val (.int u5), .val (.int (1 : Int32)), .val (.int ((1 : Int32) + ((u5 &&& (2147483647 : Int32)) % (6 : Int32)))), .val (.int ((128 : Int32) ||| (u0 &&& (127 : Int32)))), .val (.ref b78), .val (.int (f_seq (1 : Int32) ((1 : Int32) + ((u5 &&& (2147483647 : Int32)) % (6 : Int32))) (own_bs1 u0 u1 u2 u3 u4)))] [(.int (1 : Int32)), (.int (u3 &&& (255 : Int32))), (.int (u2 &&& (255 : Int32))), (.int (u1 &&& (255 : Int32))), (.int ((128 : Int32) ||| (u0 &&& (127 : Int32)))), (.int (f_seq (1 : Int32) ((1 : Int32) + ((u5 &&& (2147483647 : Int32)) % (6 : Int32))) (own_bs1 u0 u1 u2 u3 u4)))]))
    refine Gl.go ?_ (fun t k => XS.iload X85.here hx rfl (hb hby at_122) rfl k)
    show Gl _ _ _ _ (T85.setTop (mkF m 124 #[.val (.int u0), .val (.int u1), .val (.int u2), .val (.int u3), .val (.int u4), .val (.int u5), .val (.int (1 : Int32)), .val (.int ((1 : Int32) + ((u5 &&& (2147483647 : Int32)) % (6 : Int32)))), .val (.int ((128 : Int32) ||| (u0 &&& (127 : Int32)))), .val (.ref b78), .val (.int (f_seq (1 : Int32) ((1 : Int32) + ((u5 &&& (2147483647 : Int32)) % (6 : Int32))) (own_bs1 u0 u1 u2 u3 u4)))] [(.int ((1 : Int32) + ((u5 &&& (2147483647 : Int32)) % (6 : Int32)))), (.int (1 : Int32)), (.int (u3 &&& (255 : Int32))), (.int (u2 &&& (255 : Int32))), (.int (u1 &&& (255 : Int32))), (.int ((128 : Int32) ||| (u0 &&& (127 : Int32)))), (.int (f_seq (1 : Int32) ((1 : Int32) + ((u5 &&& (2147483647 : Int32)) % (6 : Int32))) (own_bs1 u0 u1 u2 u3 u4)))]))
    obtain ⟨_, _, ⟨T86, L86, k86, n86⟩, -, X86, ⟨Lc86, hQ86, l86, y86, z86⟩, st86⟩ := Jvm.LawKit.callS X85 hx (y := (⟨"com/example/litera/litera/Utf8SequenceEndPinLaw", "expected", "(IIIIII)I"⟩ : MethodName)) hown (mvT hZ (hw _ (List.mem_of_getElem? (i := 6) rfl))) (mvT hZ (hw _ (List.mem_of_getElem? (i := 7) rfl))) (mvT hZ (hw _ (List.mem_of_getElem? (i := 8) rfl))) (mvT hZ (hw _ (List.mem_of_getElem? (i := 9) rfl))) (by decide) (backOf (W := 1) (rm2 l Z a0 hw [] ((128 : Int32) ||| (u0 &&& (127 : Int32))) (u1 &&& (255 : Int32)) (u2 &&& (255 : Int32)) (u3 &&& (255 : Int32)) (1 : Int32) ((1 : Int32) + ((u5 &&& (2147483647 : Int32)) % (6 : Int32))) h84) hZ (hw _ (List.mem_of_getElem? (i := 9) rfl)) (hw _ (List.mem_of_getElem? (i := 8) rfl)) (by decide) (by decide)) (g := (mkF m 124 #[.val (.int u0), .val (.int u1), .val (.int u2), .val (.int u3), .val (.int u4), .val (.int u5), .val (.int (1 : Int32)), .val (.int ((1 : Int32) + ((u5 &&& (2147483647 : Int32)) % (6 : Int32)))), .val (.int ((128 : Int32) ||| (u0 &&& (127 : Int32)))), .val (.ref b78), .val (.int (f_seq (1 : Int32) ((1 : Int32) + ((u5 &&& (2147483647 : Int32)) % (6 : Int32))) (own_bs1 u0 u1 u2 u3 u4)))] [(.int ((1 : Int32) + ((u5 &&& (2147483647 : Int32)) % (6 : Int32)))), (.int (1 : Int32)), (.int (u3 &&& (255 : Int32))), (.int (u2 &&& (255 : Int32))), (.int (u1 &&& (255 : Int32))), (.int ((128 : Int32) ||| (u0 &&& (127 : Int32)))), (.int (f_seq (1 : Int32) ((1 : Int32) + ((u5 &&& (2147483647 : Int32)) % (6 : Int32))) (own_bs1 u0 u1 u2 u3 u4)))])) rfl (by rw [hml]; rfl) (argsL := [(.int ((128 : Int32) ||| (u0 &&& (127 : Int32)))), (.int (u1 &&& (255 : Int32))), (.int (u2 &&& (255 : Int32))), (.int (u3 &&& (255 : Int32))), (.int (1 : Int32)), (.int ((1 : Int32) + ((u5 &&& (2147483647 : Int32)) % (6 : Int32))))]) (rest := [(.int (f_seq (1 : Int32) ((1 : Int32) + ((u5 &&& (2147483647 : Int32)) % (6 : Int32))) (own_bs1 u0 u1 u2 u3 u4)))]) (lenOf pd_2 rfl) rfl (by show 2 * 0 + _ ≤ _; exact Nat.le_of_eq rfl) (hb hby at_124) (fun _ _ => ⟨rfl, e85, (by decide : 1 + 0 ≤ _), (by decide : 6 + 0 ≤ _)⟩)
    dsimp only [Pt.U, Pt.locs, Pt.cells, Pt.slots] at X86 l86 y86 z86 st86 hQ86
    subst l86 y86 z86
    obtain ⟨rfl, rfl, e86⟩ := hQ86
    have NF := Fr.app NF (Fr.nil n0)
    refine Gl.go ?_ st86
    show Gl _ _ _ _ (T86.setTop (mkF m 127 #[.val (.int u0), .val (.int u1), .val (.int u2), .val (.int u3), .val (.int u4), .val (.int u5), .val (.int (1 : Int32)), .val (.int ((1 : Int32) + ((u5 &&& (2147483647 : Int32)) % (6 : Int32)))), .val (.int ((128 : Int32) ||| (u0 &&& (127 : Int32)))), .val (.ref b78), .val (.int (f_seq (1 : Int32) ((1 : Int32) + ((u5 &&& (2147483647 : Int32)) % (6 : Int32))) (own_bs1 u0 u1 u2 u3 u4)))] [(.int (f_exp ((128 : Int32) ||| (u0 &&& (127 : Int32))) (u1 &&& (255 : Int32)) (u2 &&& (255 : Int32)) (u3 &&& (255 : Int32)) (1 : Int32) ((1 : Int32) + ((u5 &&& (2147483647 : Int32)) % (6 : Int32))))), (.int (f_seq (1 : Int32) ((1 : Int32) + ((u5 &&& (2147483647 : Int32)) % (6 : Int32))) (own_bs1 u0 u1 u2 u3 u4)))]))
    by_cases hc87 : (f_seq (1 : Int32) ((1 : Int32) + ((u5 &&& (2147483647 : Int32)) % (6 : Int32))) (own_bs1 u0 u1 u2 u3 u4)) = (f_exp ((128 : Int32) ||| (u0 &&& (127 : Int32))) (u1 &&& (255 : Int32)) (u2 &&& (255 : Int32)) (u3 &&& (255 : Int32)) (1 : Int32) ((1 : Int32) + ((u5 &&& (2147483647 : Int32)) % (6 : Int32))))
    · refine Gl.go ?_ (fun t k => XS.icmpNo X86.here hx rfl (hb hby at_127) rfl (teq hc87).2 k)
      show Gl _ _ _ _ (T86.setTop (mkF m 130 #[.val (.int u0), .val (.int u1), .val (.int u2), .val (.int u3), .val (.int u4), .val (.int u5), .val (.int (1 : Int32)), .val (.int ((1 : Int32) + ((u5 &&& (2147483647 : Int32)) % (6 : Int32)))), .val (.int ((128 : Int32) ||| (u0 &&& (127 : Int32)))), .val (.ref b78), .val (.int (f_seq (1 : Int32) ((1 : Int32) + ((u5 &&& (2147483647 : Int32)) % (6 : Int32))) (own_bs1 u0 u1 u2 u3 u4)))] []))
      refine Gl.go ?_ (fun t k => XS.iconst X86.here hx rfl (hb hby at_130) k)
      show Gl _ _ _ _ (T86.setTop (mkF m 131 #[.val (.int u0), .val (.int u1), .val (.int u2), .val (.int u3), .val (.int u4), .val (.int u5), .val (.int (1 : Int32)), .val (.int ((1 : Int32) + ((u5 &&& (2147483647 : Int32)) % (6 : Int32)))), .val (.int ((128 : Int32) ||| (u0 &&& (127 : Int32)))), .val (.ref b78), .val (.int (f_seq (1 : Int32) ((1 : Int32) + ((u5 &&& (2147483647 : Int32)) % (6 : Int32))) (own_bs1 u0 u1 u2 u3 u4)))] [(.int (1 : Int32))]))
      refine Gl.go ?_ (fun t k => XS.goto X86.here hx rfl (pc0 := 131) (pc' := 135) rfl (hb hby at_131) (by decide) (by decide) k)
      show Gl _ _ _ _ (T86.setTop (mkF m 135 #[.val (.int u0), .val (.int u1), .val (.int u2), .val (.int u3), .val (.int u4), .val (.int u5), .val (.int (1 : Int32)), .val (.int ((1 : Int32) + ((u5 &&& (2147483647 : Int32)) % (6 : Int32)))), .val (.int ((128 : Int32) ||| (u0 &&& (127 : Int32)))), .val (.ref b78), .val (.int (f_seq (1 : Int32) ((1 : Int32) + ((u5 &&& (2147483647 : Int32)) % (6 : Int32))) (own_bs1 u0 u1 u2 u3 u4)))] [(.int (1 : Int32))]))
      obtain ⟨fs, hr, hrun, hended, hW, hsame⟩ := X86.leave (v := some (.int (1 : Int32))) (fun h => by rw [Bd.returns] at h; cases h) (BodyLoose.notSynchronized Bd)
      exact Gl.mk ⟨_, _, retN X86 hx (t := .boolean) Bd.returns (by simp) (hb hby at_135) hr, hrun, hended, _, _, rfl, ⟨congrArg (fun z => some (Value.int z)) ((if_neg (own_n01 hi)).trans ((if_pos hc87).trans (rfl))).symm, NF⟩, ⟨_, rfl⟩, hW, hsame.mono (by decide) (by decide)⟩
    · refine Gl.go ?_ (fun t k => XS.icmpYes X86.here hx rfl (pc0 := 127) (pc' := 134) rfl (hb hby at_127) rfl (feq hc87).2 (by decide) (by decide) k)
      show Gl _ _ _ _ (T86.setTop (mkF m 134 #[.val (.int u0), .val (.int u1), .val (.int u2), .val (.int u3), .val (.int u4), .val (.int u5), .val (.int (1 : Int32)), .val (.int ((1 : Int32) + ((u5 &&& (2147483647 : Int32)) % (6 : Int32)))), .val (.int ((128 : Int32) ||| (u0 &&& (127 : Int32)))), .val (.ref b78), .val (.int (f_seq (1 : Int32) ((1 : Int32) + ((u5 &&& (2147483647 : Int32)) % (6 : Int32))) (own_bs1 u0 u1 u2 u3 u4)))] []))
      refine Gl.go ?_ (fun t k => XS.iconst X86.here hx rfl (hb hby at_134) k)
      show Gl _ _ _ _ (T86.setTop (mkF m 135 #[.val (.int u0), .val (.int u1), .val (.int u2), .val (.int u3), .val (.int u4), .val (.int u5), .val (.int (1 : Int32)), .val (.int ((1 : Int32) + ((u5 &&& (2147483647 : Int32)) % (6 : Int32)))), .val (.int ((128 : Int32) ||| (u0 &&& (127 : Int32)))), .val (.ref b78), .val (.int (f_seq (1 : Int32) ((1 : Int32) + ((u5 &&& (2147483647 : Int32)) % (6 : Int32))) (own_bs1 u0 u1 u2 u3 u4)))] [(.int (0 : Int32))]))
      obtain ⟨fs, hr, hrun, hended, hW, hsame⟩ := X86.leave (v := some (.int (0 : Int32))) (fun h => by rw [Bd.returns] at h; cases h) (BodyLoose.notSynchronized Bd)
      exact Gl.mk ⟨_, _, retN X86 hx (t := .boolean) Bd.returns (by simp) (hb hby at_135) hr, hrun, hended, _, _, rfl, ⟨congrArg (fun z => some (Value.int z)) ((if_neg (own_n01 hi)).trans ((if_neg hc87).trans (rfl))).symm, NF⟩, ⟨_, rfl⟩, hW, hsame.mono (by decide) (by decide)⟩
theorem own_bv {x : Int32} (h : 0 ≤ x.toInt) : (x.toBitVec.toNat : Int) = x.toInt := by
  have e : x.toInt = x.toBitVec.toInt := rfl
  rw [e, BitVec.toInt_eq_toNat_cond] at h ⊢
  split <;> omega
theorem own_or {x y : Int32} (k a : Nat) (hx : x.toInt = ((a * 2 ^ k : Nat) : Int)) (hy0 : 0 ≤ y.toInt) (hy : y.toInt < ((2 ^ k : Nat) : Int)) (hb : x.toInt + y.toInt < 2147483648) : (x ||| y).toInt = x.toInt + y.toInt := by
  have ex := own_bv (x := x) (by omega)
  have ey := own_bv hy0
  have en : (x ||| y).toBitVec.toNat = a * 2 ^ k + y.toBitVec.toNat := by
    rw [Int32.toBitVec_or, BitVec.toNat_or, show x.toBitVec.toNat = a <<< k by rw [Nat.shiftLeft_eq]; omega, ← Nat.shiftLeft_add_eq_or_of_lt (by omega), Nat.shiftLeft_eq]
  have e : (x ||| y).toInt = (x ||| y).toBitVec.toInt := rfl
  rw [e, BitVec.toInt_eq_toNat_of_lt (by omega), en]
  omega
theorem own_A (n : Nat) (hn : n < 256) : ((Int32.ofNat n &&& 224 = 192) ↔ (192 ≤ n ∧ n < 224)) ∧ ((Int32.ofNat n &&& 240 = 224) ↔ (224 ≤ n ∧ n < 240)) ∧ ((Int32.ofNat n &&& 248 = 240) ↔ (240 ≤ n ∧ n < 248)) ∧ ((Int32.ofNat n &&& 192 = 128) ↔ (128 ≤ n ∧ n < 192)) := by
  have h : ∀ m : Fin 256, ((Int32.ofNat m.val &&& 224 = 192) ↔ (192 ≤ m.val ∧ m.val < 224)) ∧ ((Int32.ofNat m.val &&& 240 = 224) ↔ (224 ≤ m.val ∧ m.val < 240)) ∧ ((Int32.ofNat m.val &&& 248 = 240) ↔ (240 ≤ m.val ∧ m.val < 248)) ∧ ((Int32.ofNat m.val &&& 192 = 128) ↔ (128 ≤ m.val ∧ m.val < 192)) := by decide +kernel
  exact h ⟨n, hn⟩
theorem own_Az (x : Int32) (h0 : 0 ≤ x.toInt) (h1 : x.toInt < 256) : ((x &&& (224 : Int32)) = (192 : Int32) ↔ (192 ≤ x.toInt ∧ x.toInt < 224)) ∧ ((x &&& (240 : Int32)) = (224 : Int32) ↔ (224 ≤ x.toInt ∧ x.toInt < 240)) ∧ ((x &&& (248 : Int32)) = (240 : Int32) ↔ (240 ≤ x.toInt ∧ x.toInt < 248)) ∧ ((x &&& (192 : Int32)) = (128 : Int32) ↔ (128 ≤ x.toInt ∧ x.toInt < 192)) := by
  have e := own_nat h0
  have q := own_A x.toInt.toNat (by omega)
  rw [← e] at q
  obtain ⟨q1, q2, q3, q4⟩ := q
  refine ⟨q1.trans ?_, q2.trans ?_, q3.trans ?_, q4.trans ?_⟩ <;> omega
theorem own_c (x : Int32) (h0 : 0 ≤ x.toInt) (h1 : x.toInt < 256) : (f_cont x) = (0 : Int32) ↔ ¬ (128 ≤ x.toInt ∧ x.toInt < 192) := by
  unfold f_cont
  rw [← (own_Az x h0 h1).2.2.2]
  split
  · rename_i h; simp [h]
  · rename_i h; simp [h]
theorem own_cp2 (x y : Int32) : ((((x &&& (31 : Int32)) <<< ((6 : Int32) &&& 31)) ||| (y &&& (63 : Int32)))).toInt = (x.toInt % 32) * 64 + y.toInt % 64 := by
  have ex : (x &&& (31 : Int32)).toInt = x.toInt % 2 ^ 5 := Jvm.Kit.i32_mask x 31 (k := 5) (by decide) (by decide)
  have ey : (y &&& (63 : Int32)).toInt = y.toInt % 2 ^ 6 := Jvm.Kit.i32_mask y 63 (k := 6) (by decide) (by decide)
  have es : ((x &&& (31 : Int32)) <<< ((6 : Int32) &&& 31)).toInt = (x &&& (31 : Int32)).toInt * 2 ^ 6 := Jvm.Kit.i32_shl _ _ (by decide) (by omega) (by omega)
  rw [own_or 6 (x.toInt % 32).toNat (by omega) (by omega) (by omega) (by omega)]
  omega
theorem own_cp3 (x y z : Int32) : (((((x &&& (15 : Int32)) <<< ((12 : Int32) &&& 31)) ||| ((y &&& (63 : Int32)) <<< ((6 : Int32) &&& 31))) ||| (z &&& (63 : Int32)))).toInt = (x.toInt % 16) * 4096 + (y.toInt % 64) * 64 + z.toInt % 64 := by
  have ex : (x &&& (15 : Int32)).toInt = x.toInt % 2 ^ 4 := Jvm.Kit.i32_mask x 15 (k := 4) (by decide) (by decide)
  have ey : (y &&& (63 : Int32)).toInt = y.toInt % 2 ^ 6 := Jvm.Kit.i32_mask y 63 (k := 6) (by decide) (by decide)
  have ez : (z &&& (63 : Int32)).toInt = z.toInt % 2 ^ 6 := Jvm.Kit.i32_mask z 63 (k := 6) (by decide) (by decide)
  have sx : ((x &&& (15 : Int32)) <<< ((12 : Int32) &&& 31)).toInt = (x &&& (15 : Int32)).toInt * 2 ^ 12 := Jvm.Kit.i32_shl _ _ (by decide) (by omega) (by omega)
  have sy : ((y &&& (63 : Int32)) <<< ((6 : Int32) &&& 31)).toInt = (y &&& (63 : Int32)).toInt * 2 ^ 6 := Jvm.Kit.i32_shl _ _ (by decide) (by omega) (by omega)
  have e1 : ((((x &&& (15 : Int32)) <<< ((12 : Int32) &&& 31)) ||| ((y &&& (63 : Int32)) <<< ((6 : Int32) &&& 31)))).toInt = ((x &&& (15 : Int32)) <<< ((12 : Int32) &&& 31)).toInt + ((y &&& (63 : Int32)) <<< ((6 : Int32) &&& 31)).toInt := own_or 12 (x.toInt % 16).toNat (by omega) (by omega) (by omega) (by omega)
  rw [own_or 6 ((x.toInt % 16) * 64 + y.toInt % 64).toNat (by omega) (by omega) (by omega) (by omega)]
  omega
theorem own_cp4 (x y z t : Int32) : ((((((x &&& (7 : Int32)) <<< ((18 : Int32) &&& 31)) ||| ((y &&& (63 : Int32)) <<< ((12 : Int32) &&& 31))) ||| ((z &&& (63 : Int32)) <<< ((6 : Int32) &&& 31))) ||| (t &&& (63 : Int32)))).toInt = (x.toInt % 8) * 262144 + (y.toInt % 64) * 4096 + (z.toInt % 64) * 64 + t.toInt % 64 := by
  have ex : (x &&& (7 : Int32)).toInt = x.toInt % 2 ^ 3 := Jvm.Kit.i32_mask x 7 (k := 3) (by decide) (by decide)
  have ey : (y &&& (63 : Int32)).toInt = y.toInt % 2 ^ 6 := Jvm.Kit.i32_mask y 63 (k := 6) (by decide) (by decide)
  have ez : (z &&& (63 : Int32)).toInt = z.toInt % 2 ^ 6 := Jvm.Kit.i32_mask z 63 (k := 6) (by decide) (by decide)
  have et : (t &&& (63 : Int32)).toInt = t.toInt % 2 ^ 6 := Jvm.Kit.i32_mask t 63 (k := 6) (by decide) (by decide)
  have sx : ((x &&& (7 : Int32)) <<< ((18 : Int32) &&& 31)).toInt = (x &&& (7 : Int32)).toInt * 2 ^ 18 := Jvm.Kit.i32_shl _ _ (by decide) (by omega) (by omega)
  have sy : ((y &&& (63 : Int32)) <<< ((12 : Int32) &&& 31)).toInt = (y &&& (63 : Int32)).toInt * 2 ^ 12 := Jvm.Kit.i32_shl _ _ (by decide) (by omega) (by omega)
  have sz : ((z &&& (63 : Int32)) <<< ((6 : Int32) &&& 31)).toInt = (z &&& (63 : Int32)).toInt * 2 ^ 6 := Jvm.Kit.i32_shl _ _ (by decide) (by omega) (by omega)
  have e1 : ((((x &&& (7 : Int32)) <<< ((18 : Int32) &&& 31)) ||| ((y &&& (63 : Int32)) <<< ((12 : Int32) &&& 31)))).toInt = ((x &&& (7 : Int32)) <<< ((18 : Int32) &&& 31)).toInt + ((y &&& (63 : Int32)) <<< ((12 : Int32) &&& 31)).toInt := own_or 18 (x.toInt % 8).toNat (by omega) (by omega) (by omega) (by omega)
  have e2 : (((((x &&& (7 : Int32)) <<< ((18 : Int32) &&& 31)) ||| ((y &&& (63 : Int32)) <<< ((12 : Int32) &&& 31))) ||| ((z &&& (63 : Int32)) <<< ((6 : Int32) &&& 31)))).toInt = ((((x &&& (7 : Int32)) <<< ((18 : Int32) &&& 31)) ||| ((y &&& (63 : Int32)) <<< ((12 : Int32) &&& 31)))).toInt + ((z &&& (63 : Int32)) <<< ((6 : Int32) &&& 31)).toInt := own_or 12 ((x.toInt % 8) * 64 + y.toInt % 64).toNat (by omega) (by omega) (by omega) (by omega)
  rw [own_or 6 ((x.toInt % 8) * 4096 + (y.toInt % 64) * 64 + z.toInt % 64).toNat (by omega) (by omega) (by omega) (by omega)]
  omega
set_option maxHeartbeats 40000000 in
theorem own_main (i to : Int32) (B : Int32 → Int32) (L b1 b2 b3 : Int32) (hL : (B i) &&& (255 : Int32) = L) (hb1 : (B (i + (1 : Int32))) &&& (255 : Int32) = b1) (hb2 : (B (i + (2 : Int32))) &&& (192 : Int32) = b2 &&& (192 : Int32)) (hb3 : (B (i + (3 : Int32))) &&& (192 : Int32) = b3 &&& (192 : Int32))
    (l0 : 128 ≤ L.toInt) (l1 : L.toInt < 256) (p0 : 0 ≤ b1.toInt) (p1 : b1.toInt < 256) (q0 : 0 ≤ b2.toInt) (q1 : b2.toInt < 256) (r0 : 0 ≤ b3.toInt) (r1 : b3.toInt < 256) : f_seq i to B = f_exp L b1 b2 b3 i to := by
  obtain ⟨A1, A2, A3, -⟩ := own_Az L (by omega) l1
  have C1 := own_c b1 p0 p1
  have C2 := own_c b2 q0 q1
  have C3 := own_c b3 r0 r1
  have D2 := (own_Az b2 q0 q1).2.2.2
  have D3 := (own_Az b3 r0 r1).2.2.2
  have E1 : ∀ c : Int32, (L = c) ↔ (L.toInt = c.toInt) := fun c => Int32.toInt_inj.symm
  have k2 := own_cp2 L b1
  have k3 := own_cp3 L b1 b2
  have k4 := own_cp4 L b1 b2 b3
  simp only [f_seq, f_exp, hL, hb1, hb2, hb3, A1, A2, A3, C1, C2, C3, D2, D3, Int32.lt_iff_toInt_lt, E1, k2, k3, k4, Int32.reduceToInt]
  generalize (to - i).toInt = d
  generalize L.toInt = z0 at *
  generalize b1.toInt = z1 at *
  generalize b2.toInt = z2 at *
  generalize b3.toInt = z3 at *
  clear E1 A1 A2 A3 C1 C2 C3 D2 D3 k2 k3 k4 hL hb1 hb2 hb3
  obtain h | h | h | h | h | h | h | h | h | h | h : z0 < 192 ∨ (192 ≤ z0 ∧ z0 < 194) ∨ (194 ≤ z0 ∧ z0 < 224) ∨ z0 = 224 ∨ (225 ≤ z0 ∧ z0 < 237) ∨ z0 = 237 ∨ (238 ≤ z0 ∧ z0 < 240) ∨ z0 = 240 ∨ (241 ≤ z0 ∧ z0 < 244) ∨ z0 = 244 ∨ 245 ≤ z0 := by omega
  all_goals
    simp (disch := omega) only [if_pos, if_neg]
  all_goals
    repeat' split
  all_goals first | rfl | (exfalso; omega)
theorem own_i2b (x : Int32) : (nar .byte (x.toInt8.toInt32)).toInt = x.toInt.bmod 256 := by
  show (x.toInt8.toInt32.toInt8.toInt32).toInt = _
  rw [Int8.toInt_toInt32, Int32.toInt_toInt8, Int8.toInt_toInt32, Int32.toInt_toInt8]
  simp only [Int.bmod_def]; omega
theorem own_m255 (x : Int32) : (nar .byte (x.toInt8.toInt32)) &&& (255 : Int32) = x &&& (255 : Int32) := by
  apply Int32.toInt_inj.mp
  rw [Jvm.Kit.i32_mask _ 255 (k := 8) (by decide) (by decide), Jvm.Kit.i32_mask x 255 (k := 8) (by decide) (by decide), own_i2b]
  simp only [Int.bmod_def]; omega
theorem own_192 (x : Int32) : x &&& (192 : Int32) = (x &&& (255 : Int32)) &&& (192 : Int32) := by
  rw [Int32.and_assoc]; rfl
theorem own_m192 (x : Int32) : (nar .byte (x.toInt8.toInt32)) &&& (192 : Int32) = (x &&& (255 : Int32)) &&& (192 : Int32) := by
  rw [own_192 (nar .byte _), own_m255]
theorem own_lead (x : Int32) : 128 ≤ ((128 : Int32) ||| (x &&& (127 : Int32))).toInt ∧ ((128 : Int32) ||| (x &&& (127 : Int32))).toInt < 256 := by
  have ex : (x &&& (127 : Int32)).toInt = x.toInt % 2 ^ 7 := Jvm.Kit.i32_mask x 127 (k := 7) (by decide) (by decide)
  have e : (128 : Int32).toInt = 128 := rfl
  rw [own_or 7 1 rfl (by omega) (by omega) (by omega)]; omega
theorem own_l255 (x : Int32) : (nar .byte (((128 : Int32) ||| (x &&& (127 : Int32))).toInt8.toInt32)) &&& (255 : Int32) = ((128 : Int32) ||| (x &&& (127 : Int32))) := by
  rw [own_m255]
  apply Int32.toInt_inj.mp
  have h := own_lead x
  rw [Jvm.Kit.i32_mask _ 255 (k := 8) (by decide) (by decide)]; omega
theorem own_b (x : Int32) : 0 ≤ (x &&& (255 : Int32)).toInt ∧ (x &&& (255 : Int32)).toInt < 256 := by
  rw [Jvm.Kit.i32_mask x 255 (k := 8) (by decide) (by decide)]; omega
theorem own_one0 (u0 u1 u2 u3 u4 to : Int32) : f_seq (0 : Int32) to (own_bs0 u0 u1 u2 u3 u4) = f_exp ((128 : Int32) ||| (u0 &&& (127 : Int32))) (u1 &&& (255 : Int32)) (u2 &&& (255 : Int32)) (u3 &&& (255 : Int32)) (0 : Int32) to := by
  have e0 : (own_bs0 u0 u1 u2 u3 u4) (0 : Int32) = nar .byte (((128 : Int32) ||| (u0 &&& (127 : Int32))).toInt8.toInt32) := rfl
  have e1 : (own_bs0 u0 u1 u2 u3 u4) ((0 : Int32) + (1 : Int32)) = nar .byte (u1.toInt8.toInt32) := rfl
  have e2 : (own_bs0 u0 u1 u2 u3 u4) ((0 : Int32) + (2 : Int32)) = nar .byte (u2.toInt8.toInt32) := rfl
  have e3 : (own_bs0 u0 u1 u2 u3 u4) ((0 : Int32) + (3 : Int32)) = nar .byte (u3.toInt8.toInt32) := rfl
  exact own_main (0 : Int32) to (own_bs0 u0 u1 u2 u3 u4) ((128 : Int32) ||| (u0 &&& (127 : Int32))) (u1 &&& (255 : Int32)) (u2 &&& (255 : Int32)) (u3 &&& (255 : Int32)) (by rw [e0]; exact own_l255 u0) (by rw [e1]; exact own_m255 u1) (by rw [e2]; exact own_m192 u2) (by rw [e3]; exact own_m192 u3) (own_lead u0).1 (own_lead u0).2 (own_b u1).1 (own_b u1).2 (own_b u2).1 (own_b u2).2 (own_b u3).1 (own_b u3).2
theorem own_one1 (u0 u1 u2 u3 u4 to : Int32) : f_seq (1 : Int32) to (own_bs1 u0 u1 u2 u3 u4) = f_exp ((128 : Int32) ||| (u0 &&& (127 : Int32))) (u1 &&& (255 : Int32)) (u2 &&& (255 : Int32)) (u3 &&& (255 : Int32)) (1 : Int32) to := by
  have e0 : (own_bs1 u0 u1 u2 u3 u4) (1 : Int32) = nar .byte (((128 : Int32) ||| (u0 &&& (127 : Int32))).toInt8.toInt32) := rfl
  have e1 : (own_bs1 u0 u1 u2 u3 u4) ((1 : Int32) + (1 : Int32)) = nar .byte (u1.toInt8.toInt32) := rfl
  have e2 : (own_bs1 u0 u1 u2 u3 u4) ((1 : Int32) + (2 : Int32)) = nar .byte (u2.toInt8.toInt32) := rfl
  have e3 : (own_bs1 u0 u1 u2 u3 u4) ((1 : Int32) + (3 : Int32)) = nar .byte (u3.toInt8.toInt32) := rfl
  exact own_main (1 : Int32) to (own_bs1 u0 u1 u2 u3 u4) ((128 : Int32) ||| (u0 &&& (127 : Int32))) (u1 &&& (255 : Int32)) (u2 &&& (255 : Int32)) (u3 &&& (255 : Int32)) (by rw [e0]; exact own_l255 u0) (by rw [e1]; exact own_m255 u1) (by rw [e2]; exact own_m192 u2) (by rw [e3]; exact own_m192 u3) (own_lead u0).1 (own_lead u0).2 (own_b u1).1 (own_b u1).2 (own_b u2).1 (own_b u2).2 (own_b u3).1 (own_b u3).2
theorem own_one (u0 u1 u2 u3 u4 u5 : Int32) : f_law u0 u1 u2 u3 u4 u5 = 1 := by
  unfold f_law
  rw [if_pos (own_one0 u0 u1 u2 u3 u4 _), if_pos (own_one1 u0 u1 u2 u3 u4 _)]
  split <;> rfl
set_option maxRecDepth 65536 in
set_option maxHeartbeats 40000000 in
theorem comes_1 {Post : Tables → Env → Array Value → State → Outcome → State → Prop} (hpost : ∀ tb e args s v u, (limb_1_1.after args s (.returned v) u = true ∧ limb_1_2.after args s (.returned v) u = true ∧ True) → FrameEnd s (.returned v) u (Jvm.fieldLocs frame_1_writes args s ++ Jvm.arrayLocs frame_1_arrays args s ++ Jvm.staticLocs frame_1_statics s) 16 128 → Post tb e args s (.returned v) u) :
    ArmFor flags0 classFile x code maxLocals ret World_1 tables_1 room_1 Calls_1 rest_1 Pre_1 Post := by
  intro l hfl _ _ p e ha hc hk s m args below hf hA hF happ hP
  obtain ⟨hcalls, hrest, hpre⟩ := hP
  obtain ⟨-, -, -, hnamed, -, -, -, hat⟩ := (Spec.applies_iff hf).mp happ
  obtain ⟨hg, hn⟩ := and_e (Cond.before_iff.mp (show (Jvm.Cond.and given_1 narrow_1).before args s = true from hpre))
  obtain ⟨g1, g2⟩ := and_e hg
  obtain ⟨g3, g4⟩ := and_e g2
  obtain ⟨g5, g6⟩ := and_e g4
  obtain ⟨g7, g8⟩ := and_e g6
  obtain ⟨g9, g10⟩ := and_e g8
  obtain ⟨g11, g12⟩ := and_e g10
  obtain ⟨w0, w1, w2, w3, w4, w5, rfl⟩ : ∃ w0 w1 w2 w3 w4 w5 : Value, args = #[w0, w1, w2, w3, w4, w5] := by
    have hs : args.size = 6 := by simpa [Cond.value, given_1] using g1
    obtain ⟨L⟩ := args
    match L, hs with
    | [w0, w1, w2, w3, w4, w5], _ => exact ⟨w0, w1, w2, w3, w4, w5, rfl⟩
  have hw := fun d (hd : d ∈ tables_1) => atoms_spec (ws := Jvm.Cond.code x code maxLocals ret :: tables_1) hat d (List.mem_cons_of_mem _ hd)
  have hfit : Fit s := fun {y c} hc i hi => by
    obtain ⟨ha, rfl⟩ := Array.getElem?_eq_some_iff.mp hc
    have q := List.all_eq_true.mp ((Array.all_eq_true_iff_forall_mem.mp hF) _ (Array.getElem_mem ha)) i (List.mem_range.mpr hi)
    simpa [Array.getElem?_eq_getElem hi] using q
  obtain ⟨i0, ei0⟩ := is_v g3
  obtain rfl : w0 = (.int i0) := Option.some.inj ei0
  obtain ⟨i1, ei1⟩ := is_v g5
  obtain rfl : w1 = (.int i1) := Option.some.inj ei1
  obtain ⟨i2, ei2⟩ := is_v g7
  obtain rfl : w2 = (.int i2) := Option.some.inj ei2
  obtain ⟨i3, ei3⟩ := is_v g9
  obtain rfl : w3 = (.int i3) := Option.some.inj ei3
  obtain ⟨i4, ei4⟩ := is_v g11
  obtain rfl : w4 = (.int i4) := Option.some.inj ei4
  obtain ⟨i5, ei5⟩ := is_v g12
  obtain rfl : w5 = (.int i5) := Option.some.inj ei5
  obtain ⟨n, o, h1, h2, h3, _, L, rfl, ⟨rfl, N⟩, hq⟩ := rm0 l s _ hw tables_1 i0 i1 i2 i3 i4 i5 s.heap s.heap.size (Nat.le_refl _) (and_one _) p e ha hc hk s m _ below hf ((Spec.applies_iff_loose hf).mp happ).1 ⟨rfl, State.Warmed39.refl s, rfl⟩ trivial
  refine ⟨n, _, h1, h2, h3, hpost _ _ _ _ _ _ ⟨Cond.after_iff.mpr rfl, Cond.after_iff.mpr (eq_i res_at (Term.int_eval (1)) (congrArg Value.int (own_one _ _ _ _ _ _))), trivial⟩ ⟨hq.1, hq.2.1, (hq.2.2.sift fun y hy => Or.inr (N y hy)).mono (by decide) (by decide)⟩⟩
theorem main_1_1 : Claimed_1_1 := comes_1 fun _ _ _ _ _ _ h hF => ⟨h.1, hF⟩
theorem main_1_2 : Claimed_1_2 := comes_1 fun _ _ _ _ _ _ h hF => ⟨h.2.1, hF⟩
end Jvm.Pilot.@@N@@
namespace Jvm.Pilot.@@N@@
open Jvm Jvm.ClassFile Sem Op Lib Jvm.Free Jvm.Stand Jvm.Pilot.@@N@@.Jvm.D
/-! MADE BY PROGRAM (witnessworld.py) out of the Statement's table words and the real class files: 9 classes; the members and pool entries that the words name. The judged class is class 1, her method 1. -/
namespace start1
open Jvm.ClassFile
def u (s : String) : CpInfo := .utf8 (stringToUtf16 s)
/-- a pool by its gaps: so many unusable entries, then the entry; so many at the end -/
def gap : Nat → List CpInfo → List CpInfo
  | 0, r => r
  | n + 1, r => .unusable :: gap n r
def poolList (es : List (Nat × CpInfo)) (last : Nat) : List CpInfo := es.foldr (fun e r => gap e.1 (e.2 :: r)) (gap last [])
def pool (es : List (Nat × CpInfo)) (last : Nat) : Array CpInfo := ⟨poolList es last⟩
def fileOf (pool : Array CpInfo) (this : Nat) (attrs : Array Attribute := #[]) (ms : Array MethodInfo := #[]) (fl : Nat := 33) (sup : Nat := 0) (ifs : Array Nat := #[]) (fds : Array FieldInfo := #[]) : ClassFile where
  minorVersion := 0
  majorVersion := 65
  constantPool := pool
  accessFlags := fl
  thisClass := this
  superClass := sup
  interfaces := ifs
  fields := fds
  methods := ms
  attributes := attrs
def plain (name : String) (sup : Option ClassId) : Class where
  name := name
  kind := .ordinary
  loader := none
  accessFlags := 33
  super := sup
  interfaces := #[]
  cf := none
  fields := #[]
  methods := #[]
  instanceTypes := #[]
  staticTypes := #[]
  resolved := #[]
  callSites := []
  init := .initialized
  statics := none
  mirror := none

def pool0 : Array CpInfo := pool [(5, u "<init>"), (0, u "()V"), (1, .class_ 10), (1, u "java/lang/Object")] 113

def k0m0 : Method := { name := "<init>", desc := "()V", sig := { parameters := [], returnType := none }, accessFlags := 1, code := none }
/-- java/lang/Object -/
def k0 : Class := { plain "java/lang/Object" none with
  accessFlags := 33
  interfaces := #[]
  cf := some (fileOf pool0 8 #[] #[{ accessFlags := 1, nameIndex := 5, descriptorIndex := 6, attributes := #[] }] 33 0 #[] #[])
  fields := #[]
  methods := #[k0m0]
  instanceTypes := #[]
  staticTypes := #[]
  resolved := Array.replicate 124 none
  statics := none }

def pool1 : Array CpInfo := pool [(2, .class_ 4), (1, u "java/lang/Object"), (0, u "<init>"), (0, u "()V"), (0, .integer 2147483647), (0, .methodref 9 10), (0, .class_ 11), (0, .nameAndType 12 13), (0, u "com/example/litera/litera/Utf8"), (0, u "sequenceEnd"), (0, u "([BII)I"), (0, .methodref 15 16), (0, .class_ 17), (0, .nameAndType 18 19), (0, u "com/example/litera/litera/Utf8SequenceEndPinLaw"), (0, u "expected"), (0, u "(IIIIII)I"), (0, .integer 65536), (0, .methodref 15 22), (0, .nameAndType 23 24), (0, u "isCont"), (0, u "(I)Z"), (0, .integer 1114111), (0, .integer 55296), (0, .integer 57343), (2, u "law"), (0, u "(IIIIII)Z")] 5

def k1m0 : Method := { name := "<init>", desc := "()V", sig := { parameters := [], returnType := none }, accessFlags := 1, code := none }
def k1c1 : Code := { maxStack := 7, maxLocals := 11, code := code, exceptionTable := #[], attributes := #[] }
def k1m1 : Method := { name := "law", desc := "(IIIIII)Z", sig := { parameters := [.int, .int, .int, .int, .int, .int], returnType := some .boolean }, accessFlags := 9, code := some k1c1 }
def k1c2 : Code := { maxStack := 2, maxLocals := 1, code := method_3_code, exceptionTable := #[], attributes := #[] }
def k1m2 : Method := { name := "isCont", desc := "(I)Z", sig := { parameters := [.int], returnType := some .boolean }, accessFlags := 10, code := some k1c2 }
def k1c3 : Code := { maxStack := 3, maxLocals := 9, code := method_4_code, exceptionTable := #[], attributes := #[] }
def k1m3 : Method := { name := "expected", desc := "(IIIIII)I", sig := { parameters := [.int, .int, .int, .int, .int, .int], returnType := some .int }, accessFlags := 10, code := some k1c3 }
/-- com/example/litera/litera/Utf8SequenceEndPinLaw -/
def k1 : Class := { plain "com/example/litera/litera/Utf8SequenceEndPinLaw" (some 0) with
  accessFlags := 49
  interfaces := #[]
  cf := some (fileOf pool1 15 #[] #[{ accessFlags := 1, nameIndex := 5, descriptorIndex := 6, attributes := #[] }, { accessFlags := 9, nameIndex := 30, descriptorIndex := 31, attributes := #[] }, { accessFlags := 10, nameIndex := 23, descriptorIndex := 24, attributes := #[] }, { accessFlags := 10, nameIndex := 18, descriptorIndex := 19, attributes := #[] }] 49 2 #[] #[])
  fields := #[]
  methods := #[k1m0, k1m1, k1m2, k1m3]
  instanceTypes := #[]
  staticTypes := #[]
  resolved := Array.replicate 37 none
  statics := none }

def pool2 : Array CpInfo := pool [(2, .class_ 4), (1, u "java/lang/Object"), (0, u "<init>"), (0, u "()V"), (1, .class_ 10), (1, u "com/example/litera/litera/Utf8"), (28, u "([BII)I"), (23, u "BYTE_ORDER_MARK"), (0, u "[B"), (39, u "sequenceEnd")] 38

def k2m0 : Method := { name := "<init>", desc := "()V", sig := { parameters := [], returnType := none }, accessFlags := 2, code := none }
def k2c1 : Code := { maxStack := 3, maxLocals := 9, code := prog_59_method_11_code, exceptionTable := #[], attributes := #[] }
def k2m1 : Method := { name := "sequenceEnd", desc := "([BII)I", sig := { parameters := [(.array .byte), .int, .int], returnType := some .int }, accessFlags := 8, code := some k2c1 }
/-- com/example/litera/litera/Utf8 -/
def k2 : Class := { plain "com/example/litera/litera/Utf8" (some 0) with
  accessFlags := 49
  interfaces := #[]
  cf := some (fileOf pool2 8 #[] #[{ accessFlags := 2, nameIndex := 5, descriptorIndex := 6, attributes := #[] }, { accessFlags := 8, nameIndex := 104, descriptorIndex := 39, attributes := #[] }] 49 2 #[] #[{ accessFlags := 26, nameIndex := 63, descriptorIndex := 64, attributes := #[] }])
  fields := #[{ name := "BYTE_ORDER_MARK", type := (.array .byte), accessFlags := 26, slot := 0, constantValue := 0 }]
  methods := #[k2m0, k2m1]
  instanceTypes := #[]
  staticTypes := #[(.array .byte)]
  resolved := Array.replicate 143 none
  statics := none }

def pool3 : Array CpInfo := pool [(1, u "java/lang/Cloneable"), (0, .class_ 1), (0, u "java/lang/Object"), (0, .class_ 3)] 3

/-- java/lang/Cloneable -/
def k3 : Class := { plain "java/lang/Cloneable" (some 0) with
  accessFlags := 1537
  interfaces := #[]
  cf := some (fileOf pool3 2 #[] #[] 1537 4 #[] #[])
  fields := #[]
  methods := #[]
  instanceTypes := #[]
  staticTypes := #[]
  resolved := Array.replicate 8 none
  statics := none }

def pool4 : Array CpInfo := pool [(1, u "java/io/Serializable"), (0, .class_ 1), (0, u "java/lang/Object"), (0, .class_ 3)] 3

/-- java/io/Serializable -/
def k4 : Class := { plain "java/io/Serializable" (some 0) with
  accessFlags := 1537
  interfaces := #[]
  cf := some (fileOf pool4 2 #[] #[] 1537 4 #[] #[])
  fields := #[]
  methods := #[]
  instanceTypes := #[]
  staticTypes := #[]
  resolved := Array.replicate 8 none
  statics := none }

/-- the primitive byte -/
def k5 : Class := { plain "byte" none with kind := .primitive 'B', accessFlags := 0x411 }
/-- [B -/
def k6 : Class := { plain "[B" (some 0) with kind := .array 5 .byte, interfaces := #[3, 4], accessFlags := 1041 }

/-- the primitive int -/
def k7 : Class := { plain "int" none with kind := .primitive 'I', accessFlags := 0x411 }
/-- [I -/
def k8 : Class := { plain "[I" (some 0) with kind := .array 7 .int, interfaces := #[3, 4], accessFlags := 1041 }

def heap : Heap := #[]
def classes : Array Class := #[k0, k1, k2, k3, k4, k5, k6, k7, k8]
def interned : List (Array UInt16 × Addr) := []
def slotsUsed : Nat := 0
def theMethod : MethodId := ⟨1, 1⟩
def args0 : Array Value := #[.int 5, .int 6, .int 7, .int 8, .int 9, .int 10]
def aboutOver (below : List Frame) : State where
  vm := { classes := classes, interned := interned.toArray }
  heap := heap
  slotsUsed := slotsUsed
  threads := #[{ frames := .invoking theMethod args0 :: below }]
def below0 : List Frame := [.native { method := ⟨0, 0⟩, args := #[] }]
def about1 : State := aboutOver below0
def p0 : Program := .bare "" "" ""
def e0 : Env := launch0.env 0 0 0
theorem w_frames : about1.frames = Frame.invoking theMethod args0 :: below0 := rfl
set_option maxRecDepth 65536 in
theorem w_args : argsFit about1.vm theMethod args0 = true := by decide +kernel
set_option maxRecDepth 65536 in
theorem w_heap : heapFits about1 = true := by decide +kernel
set_option maxRecDepth 65536 in
theorem w_runnable : about1.curStatus? = some .runnable := by decide +kernel
set_option maxRecDepth 65536 in
theorem w_alone : about1.alone = true := by decide +kernel
set_option maxRecDepth 65536 in
theorem w_named : about1.methodNamed? x = some theMethod := by decide +kernel
set_option maxRecDepth 65536 in
theorem w_hears : about1.hears theMethod below0 = true := by decide +kernel
set_option maxRecDepth 65536 in
theorem w_ripe : about1.ripe theMethod args0 below0 = true := by decide +kernel
theorem w_running : about1.status = .running := rfl
set_option maxRecDepth 65536 in
theorem w_room : about1.hasRoom e0.platform room_1 = true :=
  launch0.hasRoom_least _ room_1 (by decide +kernel) (by decide +kernel) (by decide +kernel) (by decide +kernel) (by decide +kernel) (by decide +kernel)
theorem allAtoms_all (ts : List Jvm.Cond) (a : Array Jvm.Value) (st : Jvm.State) : (allAtoms ts).before a st = ts.all (fun c => c.before a st) := by
  induction ts with
  | nil => rfl
  | cons c t ih =>
    show (Jvm.Cond.and c (allAtoms t)).before a st = _
    rw [Jvm.Cond.before_and, ih, List.all_cons]
def words1 : List Jvm.Cond := Jvm.Cond.code x code maxLocals ret :: tables_1
/-- a 'code' word, met by the world's own term for the bytes: nothing is compared byte by byte -/
theorem code_word {y : MethodName} {bytes : ByteArray} {mx : Nat} {rt : Option FieldType} {a : Array Value} {s : State} {m : MethodId} {meth : Method} {c : Code} (h1 : s.methodNamed? y = some m) (h2 : s.vm.method? m = some meth) (h3 : meth.code = some c) (h4 : c.code = bytes)
    (h5 : (c.maxLocals == mx && c.exceptionTable.isEmpty && decide (c.maxStack ≤ mostOperands) && decide (meth.sig.returnType = rt) && !meth.locks && decide (parseMethodDescriptor y.desc = some meth.sig)) = true) : (Jvm.Cond.code y bytes mx rt).before a s = true := by
  simp only [Bool.and_eq_true, beq_iff_eq, Bool.not_eq_true', decide_eq_true_eq] at h5
  obtain ⟨⟨⟨⟨⟨g1, g2⟩, g3⟩, g4⟩, g5⟩, g6⟩ := h5
  simp [Cond.before, Cond.holds, Cond.value, h1, h2, h3, h4, g1, g2, g3, g4, g5, g6]
def isCode : Jvm.Cond → Bool
  | .code _ _ _ _ => true
  | _ => false
theorem all_split {L : List Jvm.Cond} {P : Jvm.Cond → Bool} (h1 : L.all (fun c => isCode c || P c) = true) (h2 : ∀ c ∈ L.filter isCode, P c = true) : L.all P = true := by
  refine List.all_eq_true.mpr fun c hc => ?_
  have h := List.all_eq_true.mp h1 c hc
  rcases Bool.eq_false_or_eq_true (isCode c) with hi | hi
  · exact h2 c (List.mem_filter.mpr ⟨hc, hi⟩)
  · simpa [hi] using h
set_option maxRecDepth 65536 in
theorem w_c0 : (Jvm.Cond.code x code maxLocals ret).before args0 about1 = true := code_word (m := ⟨1, 1⟩) (meth := k1m1) (c := k1c1) (by decide +kernel) rfl rfl rfl (by decide +kernel)
set_option maxRecDepth 65536 in
theorem w_c1 : (Jvm.Cond.code ({ cls := "com/example/litera/litera/Utf8", name := "sequenceEnd", desc := "([BII)I" } : Jvm.MethodName) prog_59_method_11_code (9 : Nat) (Option.some Jvm.ClassFile.FieldType.int)).before args0 about1 = true := code_word (m := ⟨2, 1⟩) (meth := k2m1) (c := k2c1) (by decide +kernel) rfl rfl rfl (by decide +kernel)
set_option maxRecDepth 65536 in
theorem w_c2 : (Jvm.Cond.code ({ cls := "com/example/litera/litera/Utf8SequenceEndPinLaw", name := "expected", desc := "(IIIIII)I" } : Jvm.MethodName) method_4_code (9 : Nat) (Option.some Jvm.ClassFile.FieldType.int)).before args0 about1 = true := code_word (m := ⟨1, 3⟩) (meth := k1m3) (c := k1c3) (by decide +kernel) rfl rfl rfl (by decide +kernel)
set_option maxRecDepth 65536 in
theorem w_c3 : (Jvm.Cond.code ({ cls := "com/example/litera/litera/Utf8SequenceEndPinLaw", name := "isCont", desc := "(I)Z" } : Jvm.MethodName) method_3_code (1 : Nat) (Option.some Jvm.ClassFile.FieldType.boolean)).before args0 about1 = true := code_word (m := ⟨1, 2⟩) (meth := k1m2) (c := k1c2) (by decide +kernel) rfl rfl rfl (by decide +kernel)
def codes1 : List Jvm.Cond := [Jvm.Cond.code x code maxLocals ret, Jvm.Cond.code ({ cls := "com/example/litera/litera/Utf8", name := "sequenceEnd", desc := "([BII)I" } : Jvm.MethodName) prog_59_method_11_code (9 : Nat) (Option.some Jvm.ClassFile.FieldType.int), Jvm.Cond.code ({ cls := "com/example/litera/litera/Utf8SequenceEndPinLaw", name := "expected", desc := "(IIIIII)I" } : Jvm.MethodName) method_4_code (9 : Nat) (Option.some Jvm.ClassFile.FieldType.int), Jvm.Cond.code ({ cls := "com/example/litera/litera/Utf8SequenceEndPinLaw", name := "isCont", desc := "(I)Z" } : Jvm.MethodName) method_3_code (1 : Nat) (Option.some Jvm.ClassFile.FieldType.boolean)]
set_option maxRecDepth 65536 in
theorem codes_eq : words1.filter isCode = codes1 := rfl
theorem w_codes : ∀ c ∈ words1.filter isCode, c.before args0 about1 = true := by
  rw [codes_eq]
  intro c hc
  simp only [codes1, List.mem_cons, List.not_mem_nil, or_false] at hc
  rcases hc with rfl | rfl | rfl | rfl
  · exact w_c0
  · exact w_c1
  · exact w_c2
  · exact w_c3
set_option maxRecDepth 65536 in
theorem w_t1 : words1.all (fun c => isCode c || c.before args0 about1) = true := by decide +kernel
theorem w_tables : (allAtoms (Jvm.Cond.code x code maxLocals ret :: tables_1)).before args0 about1 = true := by
  rw [allAtoms_all]
  show words1.all (fun c => c.before args0 about1) = true
  refine all_split ?_ w_codes
  rw [w_t1]
set_option maxRecDepth 65536 in
theorem w_case : (Jvm.Cond.and given_1 narrow_1).before args0 about1 = true := by decide +kernel
theorem w_applies : (headSpec (Jvm.Cond.code x code maxLocals ret :: tables_1) room_1).applies x e0.platform about1 = true :=
  (Spec.applies_iff w_frames).mpr ⟨w_running, w_runnable, w_alone, w_named, w_hears, w_ripe, w_room, w_tables⟩
theorem atStart : AtStart classFile x code maxLocals ret World_1 tables_1 room_1 Calls_1 rest_1 Pre_1 launch0 p0 e0 about1 theMethod args0 below0 :=
  ⟨lists_1, trivial, launch0.admits_env _ _ _, launch0.least_env, fairChoices_fair.cas, fairChoices_fair.clock, w_frames, w_args, w_heap, w_applies, trivial, trivial, w_case⟩
end start1
theorem witness_1 : WitnessClaimed_1 := ⟨start1.p0, start1.e0, start1.about1, start1.theMethod, start1.args0, start1.below0, start1.atStart⟩
end Jvm.Pilot.@@N@@
