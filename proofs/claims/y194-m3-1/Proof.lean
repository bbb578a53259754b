import JvmDerived
import JvmDerived.Pilot.@@N@@Statement
import JvmDerived.Pilot.@@N@@Code
set_option linter.unusedVariables false
set_option linter.unusedSimpArgs false
@@BLOCK:NumsL.lean.txt@@
namespace Jvm.RoadKit
open Sem ClassFile Op Lib Jvm.Stand Jvm.Free Jvm.LawKit
section New
variable {p : Program} {l : Launch} {e : Env} {R : Room} {s : State} {m : MethodId} {args : Array Value} {below : List Frame} {meth : Method} {c : Code} {T : State} {locs : List Loc} {cells slots : Nat}
theorem retI (X : Stand p l e R s m args below meth c T locs cells slots) (hx : p.tables.exec = Jvm.exec) {pc : Nat} {Ls : Array Slot} {z : Int32} {rest : List Value} (hret : meth.sig.returnType = some .int) (hd : decode c.code pc = .ok (.ireturn, 1)) {fs : List Frame}
    (hl : ∀ (f : JFrame) (acts : List Action), f.method = m → f.locked = none → f.entered = [] → (doReturn e (T.setTop f) acts (some (.int z))).1 = T.setFrames fs) : Steps p.tables e below (T.setTop (mkF m pc Ls (.int z :: rest))) (T.setFrames fs) := by
  have hm' : T.vm.method? m = some meth := X.method'
  have hn : narrow .int (.int z) = .int z := rfl
  show Steps p.tables e below (T.setTop { method := m, pc := pc, locals := Ls, stack := _ :: rest, locked := none }) _
  jvm_step X.here [X.here.top, hx, hd, hm', hret, hn]
  first | (intro acts; rw [hl _ acts rfl rfl rfl]) | rw [hl _ _ rfl rfl rfl]
  exact Steps.refl _
/-- the run from U comes to an end of which Q speaks -/
def Gl (tb : Tables) (e : Env) (below : List Frame) (Q : State → Outcome → Prop) (U : State) : Prop := ∃ s₂ o, Steps tb e below U s₂ ∧ s₂.status = .running ∧ Ended s₂ below o ∧ Q s₂ o
theorem Gl.out {tb : Tables} {Q : State → Outcome → Prop} {U : State} (h : Gl tb e below Q U) : ∃ s₂ o, Steps tb e below U s₂ ∧ s₂.status = .running ∧ Ended s₂ below o ∧ Q s₂ o := h
theorem Gl.mk {tb : Tables} {Q : State → Outcome → Prop} {U : State} (h : ∃ s₂ o, Steps tb e below U s₂ ∧ s₂.status = .running ∧ Ended s₂ below o ∧ Q s₂ o) : Gl tb e below Q U := h
theorem Gl.go {tb : Tables} {Q : State → Outcome → Prop} {U V : State} (g : Gl tb e below Q V) (st : ∀ t, Steps tb e below V t → Steps tb e below U t) : Gl tb e below Q U := by
  obtain ⟨s₂, o, h1, h2⟩ := g
  exact ⟨s₂, o, st _ h1, h2⟩
theorem Gl.tr {tb : Tables} {Q : State → Outcome → Prop} {U V : State} (g : Gl tb e below Q V) (st : Steps tb e below U V) : Gl tb e below Q U := g.go fun _ k => st.trans k
/-- what a body leaves that writes and makes nothing: it returns w, the heap as it was -/
def PQ (w : Option Value) (h0 : Heap) (v : Option Value) (h : Heap) (L : List Loc) : Prop := v = w ∧ L = [] ∧ h = h0
/-- an array of ints or bytes: its length N and what it holds at j -/
def BA (Z : State) (h : Heap) (a : Addr) (ty : FieldType) (N : Int32) (f : Int32 → Int32) : Prop := ∃ cl : Cell, Arr Z h a cl ty ∧ cl.slots.size = N.toNatClampNeg ∧ ¬ N < 0 ∧ ∀ j : Int32, ¬ j < 0 → j < N → cl.slots[j.toNatClampNeg]? = some (.int (f j))
theorem BA.rdB {Z : State} {h : Heap} {a : Addr} {N j : Int32} {f : Int32 → Int32} (B : BA Z h a .byte N f) (X : Stand p l e R s m args below meth c T locs cells slots) (hx : p.tables.exec = Jvm.exec) (hZ : Z.Warmed39 s.vm) (eT : T.heap = h) (h1 : ¬ j < 0) (h2 : j < N) {g : JFrame} (hg : g.method = m) {rest : List Value} (hs : g.stack = .int j :: .ref a :: rest) (hd : decode c.code g.pc = .ok (.baload, 1)) :
    ∀ target, Steps p.tables e below (T.setTop { g with pc := g.pc + 1, stack := .int (f j) :: rest }) target → Steps p.tables e below (T.setTop g) target := by
  obtain ⟨cl, A, S, N0, H⟩ := B
  intro target k
  exact X.baloadBytes hx (j := j) (v := .int (f j)) (by rw [eT]; exact A.1) (State.isArrayOf_alike hZ.alike A.2.1) A.2.2 (inb_of S ⟨h1, h2⟩) (H j h1 h2) (g := g) hg hs hd _ k
theorem BA.rdI {Z : State} {h : Heap} {a : Addr} {N j : Int32} {f : Int32 → Int32} (B : BA Z h a .int N f) (X : Stand p l e R s m args below meth c T locs cells slots) (hx : p.tables.exec = Jvm.exec) (hZ : Z.Warmed39 s.vm) (eT : T.heap = h) (h1 : ¬ j < 0) (h2 : j < N) {g : JFrame} (hg : g.method = m) {rest : List Value} (hs : g.stack = .int j :: .ref a :: rest) (hd : decode c.code g.pc = .ok (.iaload, 1)) :
    ∀ target, Steps p.tables e below (T.setTop { g with pc := g.pc + 1, stack := .int (f j) :: rest }) target → Steps p.tables e below (T.setTop g) target := by
  obtain ⟨cl, A, S, N0, H⟩ := B
  intro target k
  exact X.iaload hx (j := j) (v := .int (f j)) (by rw [eT]; exact A.1) (State.isArrayOf_alike hZ.alike A.2.1) A.2.2 (inb_of S ⟨h1, h2⟩) (H j h1 h2) (g := g) hg hs hd _ k
theorem BA.len {Z : State} {h : Heap} {a : Addr} {N : Int32} {ty : FieldType} {f : Int32 → Int32} (B : BA Z h a ty N f) (X : Stand p l e R s m args below meth c T locs cells slots) (hx : p.tables.exec = Jvm.exec) (hZ : Z.Warmed39 s.vm) (eT : T.heap = h) {g : JFrame} (hg : g.method = m) {rest : List Value} (hs : g.stack = .ref a :: rest) (hd : decode c.code g.pc = .ok (.arraylength, 1)) :
    ∀ target, Steps p.tables e below (T.setTop { g with pc := g.pc + 1, stack := .int N :: rest }) target → Steps p.tables e below (T.setTop g) target := by
  obtain ⟨cl, A, S, N0, H⟩ := B
  intro target k
  refine X.arraylength hx (by rw [eT]; exact A.1) (State.isArrayOf_alike hZ.alike A.2.1) (g := g) hg hs hd _ ?_
  rw [len_of S N0]
  exact k
theorem Arv.rdR {Z : State} {h : Heap} {a : Addr} {k : ClassId} {N j : Int32} {ty : FieldType} {vs : List Value} {d v : Value} (V : Arv Z h a k ty N vs d) (hty : ty.isReference = true) (X : Stand p l e R s m args below meth c T locs cells slots) (hx : p.tables.exec = Jvm.exec) (hZ : Z.Warmed39 s.vm) (eT : T.heap = h) (h1 : ¬ j < 0) (h2 : j < N) (hv : vs.getD j.toNatClampNeg d = v) {g : JFrame} (hg : g.method = m) {rest : List Value} (hs : g.stack = .int j :: .ref a :: rest) (hd : decode c.code g.pc = .ok (.aaload, 1)) :
    ∀ target, Steps p.tables e below (T.setTop { g with pc := g.pc + 1, stack := v :: rest }) target → Steps p.tables e below (T.setTop g) target := by
  obtain ⟨cl, A, -, S, N0, H, -⟩ := V
  intro target k
  exact X.aaload hx (j := j) (v := v) (by rw [eT]; exact A.1) (State.isArrayOf_alike hZ.alike A.2.1) hty A.2.2 (inb_of S ⟨h1, h2⟩) (H.at (inb_of S ⟨h1, h2⟩) hv) (g := g) hg hs hd _ k
theorem BA.ext {Z : State} {h h' : Heap} {a : Addr} {N : Int32} {ty : FieldType} {f : Int32 → Int32} (B : BA Z h a ty N f) (E : Ext h h') : BA Z h' a ty N f := by
  obtain ⟨cl, A, r⟩ := B; exact ⟨cl, A.ext E, r⟩
theorem BA.other {Z : State} {h h' : Heap} {a b : Addr} {N : Int32} {ty : FieldType} {f : Int32 → Int32} {sl : Nat} {v : Value} (B : BA Z h b ty N f) (W : Wr h h' a sl v) (q : b ≠ a) : BA Z h' b ty N f := by
  obtain ⟨cl, A, r⟩ := B; exact ⟨cl, A.other W q, r⟩
theorem BA.lt {Z : State} {h : Heap} {a : Addr} {N : Int32} {ty : FieldType} {f : Int32 → Int32} (B : BA Z h a ty N f) : a < h.size := by
  obtain ⟨cl, A, r⟩ := B; exact A.lt
/-- the list of an array's values, read as a function -/
def nth (xs : List Int32) (j : Int32) : Int32 := xs.getD j.toNatClampNeg 0
theorem BA.of {Z : State} {h : Heap} {a : Addr} {k : ClassId} {N : Int32} {ty : FieldType} {d : Value} (xs : List Int32) (V : Arv Z h a k ty N (xs.map Value.int) d) (hl : N.toNatClampNeg ≤ xs.length) : BA Z h a ty N (nth xs) := by
  obtain ⟨cl, A, -, S, N0, H, -⟩ := V
  refine ⟨cl, A, S, N0, fun j h1 h2 => ?_⟩
  have h3 : j.toNatClampNeg < N.toNatClampNeg := by
    rw [Int32.lt_iff_toInt_lt] at h1 h2
    have e0 : (0 : Int32).toInt = 0 := rfl
    simp only [Int32.toNatClampNeg]; omega
  rw [H _ (by omega)]
  have h4 : j.toNatClampNeg < xs.length := by omega
  simp [nth, List.getD_eq_getElem?_getD, h4]
end New
end Jvm.RoadKit
namespace Jvm.Pilot.@@N@@
open Jvm Jvm.ClassFile Sem Op Lib Jvm.Free Jvm.Stand Jvm.LawKit Jvm.RoadKit Bundle Jvm.Pilot.@@N@@.Jvm.D
theorem own_eqv {args : Array Value} {first s : State} {o : Option Outcome} {idx : List Nat} {a b : Term} {y : Value} (h : (Cond.eq a b).value args first o s idx = some true) (hb : b.eval args first o idx s = some y) (hy : y.isRef = true ∨ ∃ z, y = .int z) : a.eval args first o idx s = some y := by
  cases ha : a.eval args first o idx s with
  | none => simp [Cond.value, ha] at h
  | some x => rcases hy with hy | ⟨z, rfl⟩ <;> cases x <;> (try cases y) <;> simp_all [Cond.value, Value.isRef]
theorem own_ref {v : Value} (h : v.isRef = true) : v = .null ∨ ∃ a, v = .ref a := ref_cases h
theorem own_nr (a : Addr) : ¬ (Value.ref a) = .null := nofun
theorem iv_lt {x a : Int32} {k : Int} (hk : a.toInt = k) (h : x < a) : x.toInt < k := hk ▸ Int32.lt_iff_toInt_lt.mp h
theorem iv_nlt {x a : Int32} {k : Int} (hk : a.toInt = k) (h : ¬ x < a) : k ≤ x.toInt := by rw [Int32.lt_iff_toInt_lt, hk] at h; omega
theorem iv_gt {x a : Int32} {k : Int} (hk : a.toInt = k) (h : a < x) : k < x.toInt := hk ▸ Int32.lt_iff_toInt_lt.mp h
theorem iv_ngt {x a : Int32} {k : Int} (hk : a.toInt = k) (h : ¬ a < x) : x.toInt ≤ k := by rw [Int32.lt_iff_toInt_lt, hk] at h; omega
theorem iv_eq {x a : Int32} {k : Int} (hk : a.toInt = k) (h : x = a) : x.toInt = k := h ▸ hk
theorem iv_ne {x a : Int32} {k : Int} (hk : a.toInt = k) (h : ¬ x = a) : x.toInt ≠ k := fun q => h (Int32.toInt_inj.mp (q.trans hk.symm))
theorem iv_lt' {x a : Int32} {k : Int} (hk : a.toInt = k) (h : x.toInt < k) : x < a := Int32.lt_iff_toInt_lt.mpr (hk ▸ h)
theorem iv_nlt' {x a : Int32} {k : Int} (hk : a.toInt = k) (h : k ≤ x.toInt) : ¬ x < a := by rw [Int32.lt_iff_toInt_lt, hk]; omega
theorem iv_gt' {x a : Int32} {k : Int} (hk : a.toInt = k) (h : k < x.toInt) : a < x := Int32.lt_iff_toInt_lt.mpr (hk ▸ h)
theorem iv_ngt' {x a : Int32} {k : Int} (hk : a.toInt = k) (h : x.toInt ≤ k) : ¬ a < x := by rw [Int32.lt_iff_toInt_lt, hk]; omega
theorem iv_eq' {x a : Int32} {k : Int} (hk : a.toInt = k) (h : x.toInt = k) : x = a := Int32.toInt_inj.mp (h.trans hk.symm)
theorem iv_neq' {x a : Int32} {k : Int} (hk : a.toInt = k) (h : x.toInt ≠ k) : ¬ x = a := fun q => h (q ▸ hk)
theorem own_succ {x : Int32} (h : x.toInt < 2147483647) : (x + 1).toInt = x.toInt + 1 := by
  have a := x.le_toInt
  exact Jvm.Kit.i32_add (by show -2 ^ 31 ≤ x.toInt + 1; omega) (by show x.toInt + 1 < 2 ^ 31; omega)
theorem own_len {u v : Int32} (h0 : 0 ≤ u.toInt) (h : u.toInt ≤ v.toInt) : u.toInt + ((v.toInt - u.toInt).toNat : Int) = v.toInt ∨ ((v.toInt - u.toInt).toNat = 0 ∧ ¬ u < v) := by
  left; omega
theorem own_nat {x : Int32} (h : 0 ≤ x.toInt) : x = Int32.ofNat x.toInt.toNat := by
  apply Int32.toInt_inj.mp
  have h2 := x.toInt_lt
  rw [Int32.toInt_ofNat_of_lt (by omega)]
  omega
theorem own_rem (x b : Int32) (hb : 0 < b.toInt) (k : Nat) (hk : b.toInt = k) : ∃ n : Nat, n < k ∧ (x &&& (2147483647 : Int32)) % b = Int32.ofNat n := by
  have h0 : (x &&& (2147483647 : Int32)).toInt = x.toInt % 2 ^ 31 := Jvm.Kit.i32_mask x 2147483647 (k := 31) (by decide) (by decide)
  have h3 : 0 ≤ (x &&& (2147483647 : Int32)).toInt := by omega
  have e : ((x &&& (2147483647 : Int32)) % b).toInt = (x &&& (2147483647 : Int32)).toInt % b.toInt := by
    rw [Int32.toInt_mod, Int.tmod_eq_emod_of_nonneg h3]
  have h1 : 0 ≤ ((x &&& (2147483647 : Int32)) % b).toInt := by rw [e]; exact Int.emod_nonneg _ (by omega)
  have h2 : ((x &&& (2147483647 : Int32)) % b).toInt < b.toInt := by rw [e]; exact Int.emod_lt_of_pos _ hb
  exact ⟨_, by omega, own_nat h1⟩
theorem d1_0 : decode method_2_code 0 = .ok (.iload_n 2, 1) := by decide +kernel
theorem d1_1 : decode method_2_code 1 = .ok (.iload_n 1, 1) := by decide +kernel
theorem d1_2 : decode method_2_code 2 = .ok (.if_icmp .gt 29, 3) := by decide +kernel
theorem d1_5 : decode method_2_code 5 = .ok (.iload_n 1, 1) := by decide +kernel
theorem d1_6 : decode method_2_code 6 = .ok (.iload_n 3, 1) := by decide +kernel
theorem d1_7 : decode method_2_code 7 = .ok (.if_icmp .ge 24, 3) := by decide +kernel
theorem d1_10 : decode method_2_code 10 = .ok (.aload_n 0, 1) := by decide +kernel
theorem d1_11 : decode method_2_code 11 = .ok (.iload_n 1, 1) := by decide +kernel
theorem d1_12 : decode method_2_code 12 = .ok (.baload, 1) := by decide +kernel
theorem d1_13 : decode method_2_code 13 = .ok (.istore 4, 2) := by decide +kernel
theorem d1_15 : decode method_2_code 15 = .ok (.iload 4, 2) := by decide +kernel
theorem d1_17 : decode method_2_code 17 = .ok (.ifCond .ge 11, 3) := by decide +kernel
theorem d1_20 : decode method_2_code 20 = .ok (.iload 4, 2) := by decide +kernel
theorem d1_22 : decode method_2_code 22 = .ok (.sipush 256, 3) := by decide +kernel
theorem d1_25 : decode method_2_code 25 = .ok (.iadd, 1) := by decide +kernel
theorem d1_26 : decode method_2_code 26 = .ok (.istore 4, 2) := by decide +kernel
theorem d1_28 : decode method_2_code 28 = .ok (.iload 4, 2) := by decide +kernel
theorem d1_30 : decode method_2_code 30 = .ok (.ireturn, 1) := by decide +kernel
theorem d1_31 : decode method_2_code 31 = .ok (.iconst 0, 1) := by decide +kernel
theorem d1_32 : decode method_2_code 32 = .ok (.ireturn, 1) := by decide +kernel
theorem pn_1 : plainName "com/example/clotwire/clotwire/link/ChecksumOfPinLaw" = true := by first | (simp [plainName, overriddenIn]; done) | decide +kernel
def f_term (j u v : Int32) (B : Int32 → Int32) : Int32 := (if j < u then (0 : Int32) else (if j < v then (if (B j) < (0 : Int32) then ((B j) + (256 : Int32)) else (B j)) else (0 : Int32)))
theorem ef_rm1 (m : MethodId) (x0 : Addr) (x1 : Int32) (x2 : Int32) (x3 : Int32) : entryFrame m #[(.ref x0), (.int x1), (.int x2), (.int x3)] 5 = mkF m 0 #[.val (.ref x0), .val (.int x1), .val (.int x2), .val (.int x3), .unset] [] := by first | (simp [entryFrame, mkF, argsToLocals, Value.category]; done) | rfl
set_option maxRecDepth 65536 in
set_option maxHeartbeats 40000000 in
theorem rm1 (l : Launch) (Z : State) (a0 : Array Value) (hw : ∀ d ∈ tables_1, d.before a0 Z = true) (ws : List Jvm.Cond) (a : Addr) (j : Int32) (u : Int32) (v : Int32) (B : Int32 → Int32) (h0 : Heap) (hB : BA Z h0 a .byte (8 : Int32) B) (hj1 : ¬ j < 0) (hj2 : j < 8) :
    MetFree l (⟨"com/example/clotwire/clotwire/link/ChecksumOfPinLaw", "term", "([BIII)I"⟩ : MethodName) (head1 (Jvm.Cond.code (⟨"com/example/clotwire/clotwire/link/ChecksumOfPinLaw", "term", "([BIII)I"⟩ : MethodName) method_2_code 5 (some .int) :: ws) ({ frames := 0, cells := 0, slots := 0, locals := 0 } : Room)) (fun aQ U => aQ = #[(.ref a), (.int j), (.int u), (.int v)] ∧ Z.Warmed39 U.vm ∧ U.heap = h0) (fun _ _ _ _ _ => True) (fun _ U o U' => ∃ vQ LQ, o = .returned vQ ∧ PQ (some (.int (f_term j u v B))) h0 vQ U'.heap LQ ∧ FrameEnd U o U' LQ ({ frames := 0, cells := 0, slots := 0, locals := 0 } : Room).cells ({ frames := 0, cells := 0, slots := 0, locals := 0 } : Room).slots) := by
  refine MetFree.of_bodySF (plainFor_of_name pn_1) hisR ?_
  intro p e s m args below meth c s₁ Bd hml0 hP hK
  obtain ⟨rfl, hZ, hh⟩ := hP
  have hx := Bd.exec
  have hby := Bd.bytes
  have hml : c.maxLocals = 5 := hml0
  have hown : s.vm.findClass "com/example/clotwire/clotwire/link/ChecksumOfPinLaw" = some m.cls := findClass_of_methodNamed Bd.named
  have hnm := (name_of_methodNamed Bd.named Bd.method).1
  have X0 : Stand p l e ({ frames := 0, cells := 0, slots := 0, locals := 0 } : Room) s m #[(.ref a), (.int j), (.int u), (.int v)] below meth c s₁ [] 0 0 := Stand.of_body Bd
  have e0 : s₁.heap = h0 := by rw [← hh, Bd.state]; rfl
  refine Gl.out ?_
  refine Gl.go ?_ (fun t k => castTop (ef_rm1 m a j u v) k)
  show Gl _ _ _ _ (s₁.setTop (mkF m 0 #[.val (.ref a), .val (.int j), .val (.int u), .val (.int v), .unset] []))
  refine Gl.go ?_ (fun t k => XS.iloadN X0.here hx rfl (hb hby d1_0) rfl k)
  show Gl _ _ _ _ (s₁.setTop (mkF m 1 #[.val (.ref a), .val (.int j), .val (.int u), .val (.int v), .unset] [(.int u)]))
  refine Gl.go ?_ (fun t k => XS.iloadN X0.here hx rfl (hb hby d1_1) rfl k)
  show Gl _ _ _ _ (s₁.setTop (mkF m 2 #[.val (.ref a), .val (.int j), .val (.int u), .val (.int v), .unset] [(.int j), (.int u)]))
  by_cases hc1 : j < u
  · refine Gl.go ?_ (fun t k => XS.icmpYes X0.here hx rfl (pc0 := 2) (pc' := 31) rfl (hb hby d1_2) rfl (tlt hc1).2.2.1 (by decide) (by decide) k)
    show Gl _ _ _ _ (s₁.setTop (mkF m 31 #[.val (.ref a), .val (.int j), .val (.int u), .val (.int v), .unset] []))
    refine Gl.go ?_ (fun t k => XS.iconst X0.here hx rfl (hb hby d1_31) k)
    show Gl _ _ _ _ (s₁.setTop (mkF m 32 #[.val (.ref a), .val (.int j), .val (.int u), .val (.int v), .unset] [(.int (0 : Int32))]))
    obtain ⟨fs, hr, hrun, hended, hW, hsame⟩ := X0.leave (v := some (.int (0 : Int32))) (fun h => by rw [Bd.returns] at h; cases h) (BodyLoose.notSynchronized Bd)
    exact Gl.mk ⟨_, _, retI X0 hx Bd.returns (hb hby d1_32) hr, hrun, hended, _, _, rfl, ⟨congrArg (fun z => some (Value.int z)) ((if_pos hc1).trans (rfl)).symm, rfl, e0⟩, ⟨_, rfl⟩, hW, hsame.mono (by decide) (by decide)⟩
  · refine Gl.go ?_ (fun t k => XS.icmpNo X0.here hx rfl (hb hby d1_2) rfl (flt hc1).2.2.1 k)
    show Gl _ _ _ _ (s₁.setTop (mkF m 5 #[.val (.ref a), .val (.int j), .val (.int u), .val (.int v), .unset] []))
    refine Gl.go ?_ (fun t k => XS.iloadN X0.here hx rfl (hb hby d1_5) rfl k)
    show Gl _ _ _ _ (s₁.setTop (mkF m 6 #[.val (.ref a), .val (.int j), .val (.int u), .val (.int v), .unset] [(.int j)]))
    refine Gl.go ?_ (fun t k => XS.iloadN X0.here hx rfl (hb hby d1_6) rfl k)
    show Gl _ _ _ _ (s₁.setTop (mkF m 7 #[.val (.ref a), .val (.int j), .val (.int u), .val (.int v), .unset] [(.int v), (.int j)]))
    by_cases hc2 : j < v
    · refine Gl.go ?_ (fun t k => XS.icmpNo X0.here hx rfl (hb hby d1_7) rfl (tlt hc2).2.1 k)
      show Gl _ _ _ _ (s₁.setTop (mkF m 10 #[.val (.ref a), .val (.int j), .val (.int u), .val (.int v), .unset] []))
      refine Gl.go ?_ (fun t k => XS.aloadN X0.here hx rfl (hb hby d1_10) rfl rfl k)
      show Gl _ _ _ _ (s₁.setTop (mkF m 11 #[.val (.ref a), .val (.int j), .val (.int u), .val (.int v), .unset] [(.ref a)]))
      refine Gl.go ?_ (fun t k => XS.iloadN X0.here hx rfl (hb hby d1_11) rfl k)
      show Gl _ _ _ _ (s₁.setTop (mkF m 12 #[.val (.ref a), .val (.int j), .val (.int u), .val (.int v), .unset] [(.int j), (.ref a)]))
      refine Gl.go ?_ (BA.rdB hB X0 hx hZ e0 hj1 hj2 (g := (mkF m 12 #[.val (.ref a), .val (.int j), .val (.int u), .val (.int v), .unset] [(.int j), (.ref a)])) rfl rfl (hb hby d1_12))
      show Gl _ _ _ _ (s₁.setTop (mkF m 13 #[.val (.ref a), .val (.int j), .val (.int u), .val (.int v), .unset] [(.int (B j))]))
      refine Gl.go ?_ (fun t k => XS.istore X0.here hx rfl (hb hby d1_13) rfl (l' := #[.val (.ref a), .val (.int j), .val (.int u), .val (.int v), .val (.int (B j))]) rfl k)
      show Gl _ _ _ _ (s₁.setTop (mkF m 15 #[.val (.ref a), .val (.int j), .val (.int u), .val (.int v), .val (.int (B j))] []))
      refine Gl.go ?_ (fun t k => XS.iload X0.here hx rfl (hb hby d1_15) rfl k)
      show Gl _ _ _ _ (s₁.setTop (mkF m 17 #[.val (.ref a), .val (.int j), .val (.int u), .val (.int v), .val (.int (B j))] [(.int (B j))]))
      by_cases hc3 : (B j) < (0 : Int32)
      · refine Gl.go ?_ (fun t k => XS.ifNo X0.here hx rfl (hb hby d1_17) rfl ((if0 _ _).trans (tlt hc3).2.1) k)
        show Gl _ _ _ _ (s₁.setTop (mkF m 20 #[.val (.ref a), .val (.int j), .val (.int u), .val (.int v), .val (.int (B j))] []))
        refine Gl.go ?_ (fun t k => XS.iload X0.here hx rfl (hb hby d1_20) rfl k)
        show Gl _ _ _ _ (s₁.setTop (mkF m 22 #[.val (.ref a), .val (.int j), .val (.int u), .val (.int v), .val (.int (B j))] [(.int (B j))]))
        refine Gl.go ?_ (fun t k => XS.sipush X0.here hx rfl (hb hby d1_22) k)
        show Gl _ _ _ _ (s₁.setTop (mkF m 25 #[.val (.ref a), .val (.int j), .val (.int u), .val (.int v), .val (.int (B j))] [(.int (256 : Int32)), (.int (B j))]))
        refine Gl.go ?_ (fun t k => XS.iadd X0.here hx rfl (hb hby d1_25) rfl k)
        show Gl _ _ _ _ (s₁.setTop (mkF m 26 #[.val (.ref a), .val (.int j), .val (.int u), .val (.int v), .val (.int (B j))] [(.int ((B j) + (256 : Int32)))]))
        refine Gl.go ?_ (fun t k => XS.istore X0.here hx rfl (hb hby d1_26) rfl (l' := #[.val (.ref a), .val (.int j), .val (.int u), .val (.int v), .val (.int ((B j) + (256 : Int32)))]) rfl k)
        show Gl _ _ _ _ (s₁.setTop (mkF m 28 #[.val (.ref a), .val (.int j), .val (.int u), .val (.int v), .val (.int ((B j) + (256 : Int32)))] []))
        refine Gl.go ?_ (fun t k => XS.iload X0.here hx rfl (hb hby d1_28) rfl k)
        show Gl _ _ _ _ (s₁.setTop (mkF m 30 #[.val (.ref a), .val (.int j), .val (.int u), .val (.int v), .val (.int ((B j) + (256 : Int32)))] [(.int ((B j) + (256 : Int32)))]))
        obtain ⟨fs, hr, hrun, hended, hW, hsame⟩ := X0.leave (v := some (.int ((B j) + (256 : Int32)))) (fun h => by rw [Bd.returns] at h; cases h) (BodyLoose.notSynchronized Bd)
        exact Gl.mk ⟨_, _, retI X0 hx Bd.returns (hb hby d1_30) hr, hrun, hended, _, _, rfl, ⟨congrArg (fun z => some (Value.int z)) ((if_neg hc1).trans ((if_pos hc2).trans ((if_pos hc3).trans (rfl)))).symm, rfl, e0⟩, ⟨_, rfl⟩, hW, hsame.mono (by decide) (by decide)⟩
      · refine Gl.go ?_ (fun t k => XS.ifYes X0.here hx rfl (pc0 := 17) (pc' := 28) rfl (hb hby d1_17) rfl ((if0 _ _).trans (flt hc3).2.1) (by decide) (by decide) k)
        show Gl _ _ _ _ (s₁.setTop (mkF m 28 #[.val (.ref a), .val (.int j), .val (.int u), .val (.int v), .val (.int (B j))] []))
        refine Gl.go ?_ (fun t k => XS.iload X0.here hx rfl (hb hby d1_28) rfl k)
        show Gl _ _ _ _ (s₁.setTop (mkF m 30 #[.val (.ref a), .val (.int j), .val (.int u), .val (.int v), .val (.int (B j))] [(.int (B j))]))
        obtain ⟨fs, hr, hrun, hended, hW, hsame⟩ := X0.leave (v := some (.int (B j))) (fun h => by rw [Bd.returns] at h; cases h) (BodyLoose.notSynchronized Bd)
        exact Gl.mk ⟨_, _, retI X0 hx Bd.returns (hb hby d1_30) hr, hrun, hended, _, _, rfl, ⟨congrArg (fun z => some (Value.int z)) ((if_neg hc1).trans ((if_pos hc2).trans ((if_neg hc3).trans (rfl)))).symm, rfl, e0⟩, ⟨_, rfl⟩, hW, hsame.mono (by decide) (by decide)⟩
    · refine Gl.go ?_ (fun t k => XS.icmpYes X0.here hx rfl (pc0 := 7) (pc' := 31) rfl (hb hby d1_7) rfl (flt hc2).2.1 (by decide) (by decide) k)
      show Gl _ _ _ _ (s₁.setTop (mkF m 31 #[.val (.ref a), .val (.int j), .val (.int u), .val (.int v), .unset] []))
      refine Gl.go ?_ (fun t k => XS.iconst X0.here hx rfl (hb hby d1_31) k)
      show Gl _ _ _ _ (s₁.setTop (mkF m 32 #[.val (.ref a), .val (.int j), .val (.int u), .val (.int v), .unset] [(.int (0 : Int32))]))
      obtain ⟨fs, hr, hrun, hended, hW, hsame⟩ := X0.leave (v := some (.int (0 : Int32))) (fun h => by rw [Bd.returns] at h; cases h) (BodyLoose.notSynchronized Bd)
      exact Gl.mk ⟨_, _, retI X0 hx Bd.returns (hb hby d1_32) hr, hrun, hended, _, _, rfl, ⟨congrArg (fun z => some (Value.int z)) ((if_neg hc1).trans ((if_neg hc2).trans (rfl))).symm, rfl, e0⟩, ⟨_, rfl⟩, hW, hsame.mono (by decide) (by decide)⟩
theorem d4_0 : decode jdk_41_method_12_code 0 = .ok (.iload_n 0, 1) := by decide +kernel
theorem d4_1 : decode jdk_41_method_12_code 1 = .ok (.ifCond .lt 13, 3) := by decide +kernel
theorem d4_4 : decode jdk_41_method_12_code 4 = .ok (.iload_n 0, 1) := by decide +kernel
theorem d4_5 : decode jdk_41_method_12_code 5 = .ok (.iload_n 1, 1) := by decide +kernel
theorem d4_6 : decode jdk_41_method_12_code 6 = .ok (.if_icmp .gt 8, 3) := by decide +kernel
theorem d4_9 : decode jdk_41_method_12_code 9 = .ok (.iload_n 1, 1) := by decide +kernel
theorem d4_10 : decode jdk_41_method_12_code 10 = .ok (.iload_n 2, 1) := by decide +kernel
theorem d4_11 : decode jdk_41_method_12_code 11 = .ok (.if_icmp .le 11, 3) := by decide +kernel
theorem d4_14 : decode jdk_41_method_12_code 14 = .ok (.aload_n 3, 1) := by decide +kernel
theorem d4_15 : decode jdk_41_method_12_code 15 = .ok (.iload_n 0, 1) := by decide +kernel
theorem d4_16 : decode jdk_41_method_12_code 16 = .ok (.iload_n 1, 1) := by decide +kernel
theorem d4_17 : decode jdk_41_method_12_code 17 = .ok (.iload_n 2, 1) := by decide +kernel
theorem d4_18 : decode jdk_41_method_12_code 18 = .ok (.invokestatic 99, 3) := by decide +kernel
theorem d4_21 : decode jdk_41_method_12_code 21 = .ok (.athrow, 1) := by decide +kernel
theorem d4_22 : decode jdk_41_method_12_code 22 = .ok (.iload_n 0, 1) := by decide +kernel
theorem d4_23 : decode jdk_41_method_12_code 23 = .ok (.ireturn, 1) := by decide +kernel
theorem pn_4 : plainName "jdk/internal/util/Preconditions" = true := by first | (simp [plainName, overriddenIn]; done) | decide +kernel
def f_pc (u : Int32) : Int32 := u
theorem ef_rm4 (m : MethodId) (x0 : Int32) (x1 : Int32) (x2 : Int32) : entryFrame m #[(.int x0), (.int x1), (.int x2), .null] 4 = mkF m 0 #[.val (.int x0), .val (.int x1), .val (.int x2), .val .null] [] := by first | (simp [entryFrame, mkF, argsToLocals, Value.category]; done) | rfl
set_option maxRecDepth 65536 in
set_option maxHeartbeats 40000000 in
theorem rm4 (l : Launch) (Z : State) (a0 : Array Value) (hw : ∀ d ∈ tables_1, d.before a0 Z = true) (ws : List Jvm.Cond) (u : Int32) (v : Int32) (n : Int32)  (h0 : Heap) (hk1 : ¬ u < 0) (hk2 : ¬ v < u) (hk3 : ¬ n < v) :
    MetFree l (⟨"jdk/internal/util/Preconditions", "checkFromToIndex", "(IIILjava/util/function/BiFunction;)I"⟩ : MethodName) (head1 (Jvm.Cond.code (⟨"jdk/internal/util/Preconditions", "checkFromToIndex", "(IIILjava/util/function/BiFunction;)I"⟩ : MethodName) jdk_41_method_12_code 4 (some .int) :: ws) ({ frames := 0, cells := 0, slots := 0, locals := 0 } : Room)) (fun aQ U => aQ = #[(.int u), (.int v), (.int n), .null] ∧ Z.Warmed39 U.vm ∧ U.heap = h0) (fun _ _ _ _ _ => True) (fun _ U o U' => ∃ vQ LQ, o = .returned vQ ∧ PQ (some (.int (f_pc u))) h0 vQ U'.heap LQ ∧ FrameEnd U o U' LQ ({ frames := 0, cells := 0, slots := 0, locals := 0 } : Room).cells ({ frames := 0, cells := 0, slots := 0, locals := 0 } : Room).slots) := by
  refine MetFree.of_bodySF (plainFor_of_name pn_4) hisR ?_
  intro p e s m args below meth c s₁ Bd hml0 hP hK
  obtain ⟨rfl, hZ, hh⟩ := hP
  have hx := Bd.exec
  have hby := Bd.bytes
  have hml : c.maxLocals = 4 := hml0
  have hown : s.vm.findClass "jdk/internal/util/Preconditions" = some m.cls := findClass_of_methodNamed Bd.named
  have hnm := (name_of_methodNamed Bd.named Bd.method).1
  have X0 : Stand p l e ({ frames := 0, cells := 0, slots := 0, locals := 0 } : Room) s m #[(.int u), (.int v), (.int n), .null] below meth c s₁ [] 0 0 := Stand.of_body Bd
  have e0 : s₁.heap = h0 := by rw [← hh, Bd.state]; rfl
  refine Gl.out ?_
  refine Gl.go ?_ (fun t k => castTop (ef_rm4 m u v n) k)
  show Gl _ _ _ _ (s₁.setTop (mkF m 0 #[.val (.int u), .val (.int v), .val (.int n), .val .null] []))
  refine Gl.go ?_ (fun t k => XS.iloadN X0.here hx rfl (hb hby d4_0) rfl k)
  show Gl _ _ _ _ (s₁.setTop (mkF m 1 #[.val (.int u), .val (.int v), .val (.int n), .val .null] [(.int u)]))
  refine Gl.go ?_ (fun t k => XS.ifNo X0.here hx rfl (hb hby d4_1) rfl ((if0 _ _).trans (flt hk1).1) k)
  show Gl _ _ _ _ (s₁.setTop (mkF m 4 #[.val (.int u), .val (.int v), .val (.int n), .val .null] []))
  refine Gl.go ?_ (fun t k => XS.iloadN X0.here hx rfl (hb hby d4_4) rfl k)
  show Gl _ _ _ _ (s₁.setTop (mkF m 5 #[.val (.int u), .val (.int v), .val (.int n), .val .null] [(.int u)]))
  refine Gl.go ?_ (fun t k => XS.iloadN X0.here hx rfl (hb hby d4_5) rfl k)
  show Gl _ _ _ _ (s₁.setTop (mkF m 6 #[.val (.int u), .val (.int v), .val (.int n), .val .null] [(.int v), (.int u)]))
  refine Gl.go ?_ (fun t k => XS.icmpNo X0.here hx rfl (hb hby d4_6) rfl (flt hk2).2.2.1 k)
  show Gl _ _ _ _ (s₁.setTop (mkF m 9 #[.val (.int u), .val (.int v), .val (.int n), .val .null] []))
  refine Gl.go ?_ (fun t k => XS.iloadN X0.here hx rfl (hb hby d4_9) rfl k)
  show Gl _ _ _ _ (s₁.setTop (mkF m 10 #[.val (.int u), .val (.int v), .val (.int n), .val .null] [(.int v)]))
  refine Gl.go ?_ (fun t k => XS.iloadN X0.here hx rfl (hb hby d4_10) rfl k)
  show Gl _ _ _ _ (s₁.setTop (mkF m 11 #[.val (.int u), .val (.int v), .val (.int n), .val .null] [(.int n), (.int v)]))
  refine Gl.go ?_ (fun t k => XS.icmpYes X0.here hx rfl (pc0 := 11) (pc' := 22) rfl (hb hby d4_11) rfl (flt hk3).2.2.2 (by decide) (by decide) k)
  show Gl _ _ _ _ (s₁.setTop (mkF m 22 #[.val (.int u), .val (.int v), .val (.int n), .val .null] []))
  refine Gl.go ?_ (fun t k => XS.iloadN X0.here hx rfl (hb hby d4_22) rfl k)
  show Gl _ _ _ _ (s₁.setTop (mkF m 23 #[.val (.int u), .val (.int v), .val (.int n), .val .null] [(.int u)]))
  obtain ⟨fs, hr, hrun, hended, hW, hsame⟩ := X0.leave (v := some (.int u)) (fun h => by rw [Bd.returns] at h; cases h) (BodyLoose.notSynchronized Bd)
  exact Gl.mk ⟨_, _, retI X0 hx Bd.returns (hb hby d4_23) hr, hrun, hended, _, _, rfl, ⟨congrArg (fun z => some (Value.int z)) (rfl).symm, rfl, e0⟩, ⟨_, rfl⟩, hW, hsame.mono (by decide) (by decide)⟩
theorem d3_0 : decode jdk_31_method_18_code 0 = .ok (.iload_n 0, 1) := by decide +kernel
theorem d3_1 : decode jdk_31_method_18_code 1 = .ok (.iload_n 1, 1) := by decide +kernel
theorem d3_2 : decode jdk_31_method_18_code 2 = .ok (.iload_n 2, 1) := by decide +kernel
theorem d3_3 : decode jdk_31_method_18_code 3 = .ok (.aconst_null, 1) := by decide +kernel
theorem d3_4 : decode jdk_31_method_18_code 4 = .ok (.invokestatic 111, 3) := by decide +kernel
theorem d3_7 : decode jdk_31_method_18_code 7 = .ok (.ireturn, 1) := by decide +kernel
theorem pn_3 : plainName "java/util/Objects" = true := by first | (simp [plainName, overriddenIn]; done) | decide +kernel
theorem pd_0 : parseMethodDescriptor "(IIILjava/util/function/BiFunction;)I" = some ⟨[.int, .int, .int, (.object "java/util/function/BiFunction")], some .int⟩ := by decide +kernel
def f_oc (u : Int32) : Int32 := u
theorem ef_rm3 (m : MethodId) (x0 : Int32) (x1 : Int32) (x2 : Int32) : entryFrame m #[(.int x0), (.int x1), (.int x2)] 3 = mkF m 0 #[.val (.int x0), .val (.int x1), .val (.int x2)] [] := by first | (simp [entryFrame, mkF, argsToLocals, Value.category]; done) | rfl
set_option maxRecDepth 65536 in
set_option maxHeartbeats 40000000 in
theorem rm3 (l : Launch) (Z : State) (a0 : Array Value) (hw : ∀ d ∈ tables_1, d.before a0 Z = true) (ws : List Jvm.Cond) (u : Int32) (v : Int32) (n : Int32)  (h0 : Heap) (hk1 : ¬ u < 0) (hk2 : ¬ v < u) (hk3 : ¬ n < v) :
    MetFree l (⟨"java/util/Objects", "checkFromToIndex", "(III)I"⟩ : MethodName) (head1 (Jvm.Cond.code (⟨"java/util/Objects", "checkFromToIndex", "(III)I"⟩ : MethodName) jdk_31_method_18_code 3 (some .int) :: ws) ({ frames := 1, cells := 0, slots := 0, locals := 15 } : Room)) (fun aQ U => aQ = #[(.int u), (.int v), (.int n)] ∧ Z.Warmed39 U.vm ∧ U.heap = h0) (fun _ _ _ _ _ => True) (fun _ U o U' => ∃ vQ LQ, o = .returned vQ ∧ PQ (some (.int (f_oc u))) h0 vQ U'.heap LQ ∧ FrameEnd U o U' LQ ({ frames := 1, cells := 0, slots := 0, locals := 15 } : Room).cells ({ frames := 1, cells := 0, slots := 0, locals := 15 } : Room).slots) := by
  refine MetFree.of_bodySF (plainFor_of_name pn_3) hisR ?_
  intro p e s m args below meth c s₁ Bd hml0 hP hK
  obtain ⟨rfl, hZ, hh⟩ := hP
  have hx := Bd.exec
  have hby := Bd.bytes
  have hml : c.maxLocals = 3 := hml0
  have hown : s.vm.findClass "java/util/Objects" = some m.cls := findClass_of_methodNamed Bd.named
  have hnm := (name_of_methodNamed Bd.named Bd.method).1
  have X0 : Stand p l e ({ frames := 1, cells := 0, slots := 0, locals := 15 } : Room) s m #[(.int u), (.int v), (.int n)] below meth c s₁ [] 0 0 := Stand.of_body Bd
  have e0 : s₁.heap = h0 := by rw [← hh, Bd.state]; rfl
  refine Gl.out ?_
  refine Gl.go ?_ (fun t k => castTop (ef_rm3 m u v n) k)
  show Gl _ _ _ _ (s₁.setTop (mkF m 0 #[.val (.int u), .val (.int v), .val (.int n)] []))
  refine Gl.go ?_ (fun t k => XS.iloadN X0.here hx rfl (hb hby d3_0) rfl k)
  show Gl _ _ _ _ (s₁.setTop (mkF m 1 #[.val (.int u), .val (.int v), .val (.int n)] [(.int u)]))
  refine Gl.go ?_ (fun t k => XS.iloadN X0.here hx rfl (hb hby d3_1) rfl k)
  show Gl _ _ _ _ (s₁.setTop (mkF m 2 #[.val (.int u), .val (.int v), .val (.int n)] [(.int v), (.int u)]))
  refine Gl.go ?_ (fun t k => XS.iloadN X0.here hx rfl (hb hby d3_2) rfl k)
  show Gl _ _ _ _ (s₁.setTop (mkF m 3 #[.val (.int u), .val (.int v), .val (.int n)] [(.int n), (.int v), (.int u)]))
  refine Gl.go ?_ (fun t k => XS.aconstNull X0.here hx rfl (hb hby d3_3) k)
  show Gl _ _ _ _ (s₁.setTop (mkF m 4 #[.val (.int u), .val (.int v), .val (.int n)] [.null, (.int n), (.int v), (.int u)]))
  obtain ⟨_, _, ⟨T4, L4, k4, n4⟩, -, X4, ⟨Lc4, hQ4, l4, y4, z4⟩, st4⟩ := Jvm.LawKit.callS X0 hx (y := (⟨"jdk/internal/util/Preconditions", "checkFromToIndex", "(IIILjava/util/function/BiFunction;)I"⟩ : MethodName)) hown (mvT hZ (hw _ (List.mem_of_getElem? (i := 13) rfl))) (mvT hZ (hw _ (List.mem_of_getElem? (i := 14) rfl))) (mvT hZ (hw _ (List.mem_of_getElem? (i := 15) rfl))) (mvT hZ (hw _ (List.mem_of_getElem? (i := 16) rfl))) (by decide) (backOf (W := 0) (rm4 l Z a0 hw [] u v n h0 hk1 hk2 hk3) hZ (hw _ (List.mem_of_getElem? (i := 16) rfl)) (hw _ (List.mem_of_getElem? (i := 15) rfl)) (by decide) (by decide)) (g := (mkF m 4 #[.val (.int u), .val (.int v), .val (.int n)] [.null, (.int n), (.int v), (.int u)])) rfl (by rw [hml]; rfl) (argsL := [(.int u), (.int v), (.int n), .null]) (rest := []) (lenOf pd_0 rfl) rfl (by show 2 * 0 + _ ≤ _; exact Nat.le_of_eq rfl) (hb hby d3_4) (fun _ _ => ⟨rfl, e0, (by decide : 0 + 0 ≤ _), (by decide : 0 + 0 ≤ _)⟩)
  dsimp only [Pt.U, Pt.locs, Pt.cells, Pt.slots] at X4 l4 y4 z4 st4 hQ4
  subst l4 y4 z4
  obtain ⟨rfl, rfl, e4⟩ := hQ4
  refine Gl.go ?_ st4
  show Gl _ _ _ _ (T4.setTop (mkF m 7 #[.val (.int u), .val (.int v), .val (.int n)] [(.int u)]))
  obtain ⟨fs, hr, hrun, hended, hW, hsame⟩ := X4.leave (v := some (.int u)) (fun h => by rw [Bd.returns] at h; cases h) (BodyLoose.notSynchronized Bd)
  exact Gl.mk ⟨_, _, retI X4 hx Bd.returns (hb hby d3_7) hr, hrun, hended, _, _, rfl, ⟨congrArg (fun z => some (Value.int z)) (rfl).symm, rfl, e4⟩, ⟨_, rfl⟩, hW, hsame.mono (by decide) (by decide)⟩
theorem d2_0 : decode prog_55_method_2_code 0 = .ok (.iload_n 1, 1) := by decide +kernel
theorem d2_1 : decode prog_55_method_2_code 1 = .ok (.iload_n 2, 1) := by decide +kernel
theorem d2_2 : decode prog_55_method_2_code 2 = .ok (.aload_n 0, 1) := by decide +kernel
theorem d2_3 : decode prog_55_method_2_code 3 = .ok (.arraylength, 1) := by decide +kernel
theorem d2_4 : decode prog_55_method_2_code 4 = .ok (.invokestatic 7, 3) := by decide +kernel
theorem d2_7 : decode prog_55_method_2_code 7 = .ok (.pop, 1) := by decide +kernel
theorem d2_8 : decode prog_55_method_2_code 8 = .ok (.iconst 0, 1) := by decide +kernel
theorem d2_9 : decode prog_55_method_2_code 9 = .ok (.istore_n 3, 1) := by decide +kernel
theorem d2_10 : decode prog_55_method_2_code 10 = .ok (.iload_n 1, 1) := by decide +kernel
theorem d2_11 : decode prog_55_method_2_code 11 = .ok (.istore 4, 2) := by decide +kernel
theorem d2_13 : decode prog_55_method_2_code 13 = .ok (.iload 4, 2) := by decide +kernel
theorem d2_15 : decode prog_55_method_2_code 15 = .ok (.iload_n 2, 1) := by decide +kernel
theorem d2_16 : decode prog_55_method_2_code 16 = .ok (.if_icmp .ge 20, 3) := by decide +kernel
theorem d2_19 : decode prog_55_method_2_code 19 = .ok (.iload_n 3, 1) := by decide +kernel
theorem d2_20 : decode prog_55_method_2_code 20 = .ok (.aload_n 0, 1) := by decide +kernel
theorem d2_21 : decode prog_55_method_2_code 21 = .ok (.iload 4, 2) := by decide +kernel
theorem d2_23 : decode prog_55_method_2_code 23 = .ok (.baload, 1) := by decide +kernel
theorem d2_24 : decode prog_55_method_2_code 24 = .ok (.sipush 255, 3) := by decide +kernel
theorem d2_27 : decode prog_55_method_2_code 27 = .ok (.iand, 1) := by decide +kernel
theorem d2_28 : decode prog_55_method_2_code 28 = .ok (.iadd, 1) := by decide +kernel
theorem d2_29 : decode prog_55_method_2_code 29 = .ok (.istore_n 3, 1) := by decide +kernel
theorem d2_30 : decode prog_55_method_2_code 30 = .ok (.iinc 4 1, 3) := by decide +kernel
theorem d2_33 : decode prog_55_method_2_code 33 = .ok (.goto (-20), 3) := by decide +kernel
theorem d2_36 : decode prog_55_method_2_code 36 = .ok (.iload_n 3, 1) := by decide +kernel
theorem d2_37 : decode prog_55_method_2_code 37 = .ok (.sipush 255, 3) := by decide +kernel
theorem d2_40 : decode prog_55_method_2_code 40 = .ok (.iand, 1) := by decide +kernel
theorem d2_41 : decode prog_55_method_2_code 41 = .ok (.ireturn, 1) := by decide +kernel
theorem pn_2 : plainName "com/example/clotwire/clotwire/link/Checksum" = true := by first | (simp [plainName, overriddenIn]; done) | decide +kernel
def f_sum (B : Int32 → Int32) : Nat → Int32 → Int32 → Int32
  | 0, _, S => S
  | k + 1, i, S => f_sum B k (i + 1) (S + (B i &&& 255))
set_option maxRecDepth 65536 in
set_option maxHeartbeats 40000000 in
theorem loop_of {p : Program} {l : Launch} {e : Env} {R : Room} {s : State} {m : MethodId} {args : Array Value} {below : List Frame} {meth : Method} {c : Code} {T : State} {locs : List Loc} {cells slots : Nat} {Z : State} {h0 : Heap} {K : State → Outcome → Prop} (X0 : Stand p l e R s m args below meth c T locs cells slots) (hx : p.tables.exec = Jvm.exec) (hZ : Z.Warmed39 s.vm) (hby : c.code = prog_55_method_2_code) (e0 : T.heap = h0) (a : Addr) (u v : Int32) (B : Int32 → Int32) (hB : BA Z h0 a .byte (8 : Int32) B) (hq : v.toInt ≤ 8) : ∀ (k : Nat) (i S : Int32), 0 ≤ i.toInt → (i.toInt + k = v.toInt ∨ (k = 0 ∧ ¬ i < v)) → (∀ j : Int32, Gl p.tables e below K (T.setTop (mkF m 36 #[.val (.ref a), .val (.int u), .val (.int v), .val (.int (f_sum B k i S)), .val (.int j)] []))) → Gl p.tables e below K (T.setTop (mkF m 13 #[.val (.ref a), .val (.int u), .val (.int v), .val (.int S), .val (.int i)] [])) := by
  intro k
  induction k with
  | zero =>
    intro i S h1 h2 cont
    have hc : ¬ i < v := by rcases h2 with h | h; (· rw [Int32.lt_iff_toInt_lt]; omega); exact h.2
    show Gl _ _ _ _ (T.setTop (mkF m 13 #[.val (.ref a), .val (.int u), .val (.int v), .val (.int S), .val (.int i)] []))
    refine Gl.go ?_ (fun t k => XS.iload X0.here hx rfl (hb hby d2_13) rfl k)
    show Gl _ _ _ _ (T.setTop (mkF m 15 #[.val (.ref a), .val (.int u), .val (.int v), .val (.int S), .val (.int i)] [(.int i)]))
    refine Gl.go ?_ (fun t k => XS.iloadN X0.here hx rfl (hb hby d2_15) rfl k)
    show Gl _ _ _ _ (T.setTop (mkF m 16 #[.val (.ref a), .val (.int u), .val (.int v), .val (.int S), .val (.int i)] [(.int v), (.int i)]))
    refine Gl.go ?_ (fun t k => XS.icmpYes X0.here hx rfl (pc0 := 16) (pc' := 36) rfl (hb hby d2_16) rfl (flt hc).2.1 (by decide) (by decide) k)
    exact cont i
  | succ k ih =>
    intro i S h1 h2 cont
    have h3 : i.toInt < v.toInt := by rcases h2 with h | h; (· omega); exact absurd h.1 (by omega)
    have hc : i < v := Int32.lt_iff_toInt_lt.mpr h3
    have h4 : (i + 1).toInt = i.toInt + 1 := own_succ (by omega)
    show Gl _ _ _ _ (T.setTop (mkF m 13 #[.val (.ref a), .val (.int u), .val (.int v), .val (.int S), .val (.int i)] []))
    refine Gl.go ?_ (fun t k => XS.iload X0.here hx rfl (hb hby d2_13) rfl k)
    show Gl _ _ _ _ (T.setTop (mkF m 15 #[.val (.ref a), .val (.int u), .val (.int v), .val (.int S), .val (.int i)] [(.int i)]))
    refine Gl.go ?_ (fun t k => XS.iloadN X0.here hx rfl (hb hby d2_15) rfl k)
    show Gl _ _ _ _ (T.setTop (mkF m 16 #[.val (.ref a), .val (.int u), .val (.int v), .val (.int S), .val (.int i)] [(.int v), (.int i)]))
    refine Gl.go ?_ (fun t k => XS.icmpNo X0.here hx rfl (hb hby d2_16) rfl (tlt hc).2.1 k)
    show Gl _ _ _ _ (T.setTop (mkF m 19 #[.val (.ref a), .val (.int u), .val (.int v), .val (.int S), .val (.int i)] []))
    refine Gl.go ?_ (fun t k => XS.iloadN X0.here hx rfl (hb hby d2_19) rfl k)
    show Gl _ _ _ _ (T.setTop (mkF m 20 #[.val (.ref a), .val (.int u), .val (.int v), .val (.int S), .val (.int i)] [(.int S)]))
    refine Gl.go ?_ (fun t k => XS.aloadN X0.here hx rfl (hb hby d2_20) rfl rfl k)
    show Gl _ _ _ _ (T.setTop (mkF m 21 #[.val (.ref a), .val (.int u), .val (.int v), .val (.int S), .val (.int i)] [(.ref a), (.int S)]))
    refine Gl.go ?_ (fun t k => XS.iload X0.here hx rfl (hb hby d2_21) rfl k)
    show Gl _ _ _ _ (T.setTop (mkF m 23 #[.val (.ref a), .val (.int u), .val (.int v), .val (.int S), .val (.int i)] [(.int i), (.ref a), (.int S)]))
    refine Gl.go ?_ (BA.rdB hB X0 hx hZ e0 (iv_nlt' (k := 0) rfl h1) (iv_lt' (k := 8) rfl (by omega)) (g := (mkF m 23 #[.val (.ref a), .val (.int u), .val (.int v), .val (.int S), .val (.int i)] [(.int i), (.ref a), (.int S)])) rfl rfl (hb hby d2_23))
    show Gl _ _ _ _ (T.setTop (mkF m 24 #[.val (.ref a), .val (.int u), .val (.int v), .val (.int S), .val (.int i)] [(.int (B i)), (.int S)]))
    refine Gl.go ?_ (fun t k => XS.sipush X0.here hx rfl (hb hby d2_24) k)
    show Gl _ _ _ _ (T.setTop (mkF m 27 #[.val (.ref a), .val (.int u), .val (.int v), .val (.int S), .val (.int i)] [(.int (255 : Int32)), (.int (B i)), (.int S)]))
    refine Gl.go ?_ (fun t k => XS.iand X0.here hx rfl (hb hby d2_27) rfl k)
    show Gl _ _ _ _ (T.setTop (mkF m 28 #[.val (.ref a), .val (.int u), .val (.int v), .val (.int S), .val (.int i)] [(.int ((B i) &&& (255 : Int32))), (.int S)]))
    refine Gl.go ?_ (fun t k => XS.iadd X0.here hx rfl (hb hby d2_28) rfl k)
    show Gl _ _ _ _ (T.setTop (mkF m 29 #[.val (.ref a), .val (.int u), .val (.int v), .val (.int S), .val (.int i)] [(.int (S + ((B i) &&& (255 : Int32))))]))
    refine Gl.go ?_ (fun t k => XS.istoreN X0.here hx rfl (hb hby d2_29) rfl (l' := #[.val (.ref a), .val (.int u), .val (.int v), .val (.int (S + ((B i) &&& (255 : Int32)))), .val (.int i)]) rfl k)
    show Gl _ _ _ _ (T.setTop (mkF m 30 #[.val (.ref a), .val (.int u), .val (.int v), .val (.int (S + ((B i) &&& (255 : Int32)))), .val (.int i)] []))
    refine Gl.go ?_ (fun t k => XS.iinc X0.here hx rfl (hb hby d2_30) rfl (l' := #[.val (.ref a), .val (.int u), .val (.int v), .val (.int (S + ((B i) &&& (255 : Int32)))), .val (.int (i + (1 : Int32)))]) rfl k)
    show Gl _ _ _ _ (T.setTop (mkF m 33 #[.val (.ref a), .val (.int u), .val (.int v), .val (.int (S + ((B i) &&& (255 : Int32)))), .val (.int (i + (1 : Int32)))] []))
    refine Gl.go ?_ (fun t k => XS.goto X0.here hx rfl (pc0 := 33) (pc' := 13) rfl (hb hby d2_33) (by decide) (by decide) k)
    exact ih (i + 1) (S + (B i &&& 255)) (by omega) (by rcases h2 with h | h; (· left; omega); exact absurd h.1 (by omega)) cont
theorem pd_1 : parseMethodDescriptor "(III)I" = some ⟨[.int, .int, .int], some .int⟩ := by decide +kernel
def f_of (u v : Int32) (B : Int32 → Int32) : Int32 := ((f_sum B (v.toInt - u.toInt).toNat u 0) &&& (255 : Int32))
theorem ef_rm2 (m : MethodId) (x0 : Addr) (x1 : Int32) (x2 : Int32) : entryFrame m #[(.ref x0), (.int x1), (.int x2)] 5 = mkF m 0 #[.val (.ref x0), .val (.int x1), .val (.int x2), .unset, .unset] [] := by first | (simp [entryFrame, mkF, argsToLocals, Value.category]; done) | rfl
set_option maxRecDepth 65536 in
set_option maxHeartbeats 40000000 in
theorem rm2 (l : Launch) (Z : State) (a0 : Array Value) (hw : ∀ d ∈ tables_1, d.before a0 Z = true) (ws : List Jvm.Cond) (a : Addr) (u : Int32) (v : Int32) (B : Int32 → Int32) (h0 : Heap) (hB : BA Z h0 a .byte (8 : Int32) B) (hk0 : 0 ≤ u.toInt) (hpq : u.toInt ≤ v.toInt) (hq : v.toInt ≤ 8) :
    MetFree l (⟨"com/example/clotwire/clotwire/link/Checksum", "of", "([BII)I"⟩ : MethodName) (head1 (Jvm.Cond.code (⟨"com/example/clotwire/clotwire/link/Checksum", "of", "([BII)I"⟩ : MethodName) prog_55_method_2_code 5 (some .int) :: ws) ({ frames := 2, cells := 0, slots := 0, locals := 29 } : Room)) (fun aQ U => aQ = #[(.ref a), (.int u), (.int v)] ∧ Z.Warmed39 U.vm ∧ U.heap = h0) (fun _ _ _ _ _ => True) (fun _ U o U' => ∃ vQ LQ, o = .returned vQ ∧ PQ (some (.int (f_of u v B))) h0 vQ U'.heap LQ ∧ FrameEnd U o U' LQ ({ frames := 2, cells := 0, slots := 0, locals := 29 } : Room).cells ({ frames := 2, cells := 0, slots := 0, locals := 29 } : Room).slots) := by
  refine MetFree.of_bodySF (plainFor_of_name pn_2) hisR ?_
  intro p e s m args below meth c s₁ Bd hml0 hP hK
  obtain ⟨rfl, hZ, hh⟩ := hP
  have hx := Bd.exec
  have hby := Bd.bytes
  have hml : c.maxLocals = 5 := hml0
  have hown : s.vm.findClass "com/example/clotwire/clotwire/link/Checksum" = some m.cls := findClass_of_methodNamed Bd.named
  have hnm := (name_of_methodNamed Bd.named Bd.method).1
  have X0 : Stand p l e ({ frames := 2, cells := 0, slots := 0, locals := 29 } : Room) s m #[(.ref a), (.int u), (.int v)] below meth c s₁ [] 0 0 := Stand.of_body Bd
  have e0 : s₁.heap = h0 := by rw [← hh, Bd.state]; rfl
  refine Gl.out ?_
  refine Gl.go ?_ (fun t k => castTop (ef_rm2 m a u v) k)
  show Gl _ _ _ _ (s₁.setTop (mkF m 0 #[.val (.ref a), .val (.int u), .val (.int v), .unset, .unset] []))
  refine Gl.go ?_ (fun t k => XS.iloadN X0.here hx rfl (hb hby d2_0) rfl k)
  show Gl _ _ _ _ (s₁.setTop (mkF m 1 #[.val (.ref a), .val (.int u), .val (.int v), .unset, .unset] [(.int u)]))
  refine Gl.go ?_ (fun t k => XS.iloadN X0.here hx rfl (hb hby d2_1) rfl k)
  show Gl _ _ _ _ (s₁.setTop (mkF m 2 #[.val (.ref a), .val (.int u), .val (.int v), .unset, .unset] [(.int v), (.int u)]))
  refine Gl.go ?_ (fun t k => XS.aloadN X0.here hx rfl (hb hby d2_2) rfl rfl k)
  show Gl _ _ _ _ (s₁.setTop (mkF m 3 #[.val (.ref a), .val (.int u), .val (.int v), .unset, .unset] [(.ref a), (.int v), (.int u)]))
  refine Gl.go ?_ (BA.len hB X0 hx hZ e0 (g := (mkF m 3 #[.val (.ref a), .val (.int u), .val (.int v), .unset, .unset] [(.ref a), (.int v), (.int u)])) rfl rfl (hb hby d2_3))
  show Gl _ _ _ _ (s₁.setTop (mkF m 4 #[.val (.ref a), .val (.int u), .val (.int v), .unset, .unset] [(.int (8 : Int32)), (.int v), (.int u)]))
  obtain ⟨_, _, ⟨T5, L5, k5, n5⟩, -, X5, ⟨Lc5, hQ5, l5, y5, z5⟩, st5⟩ := Jvm.LawKit.callS X0 hx (y := (⟨"java/util/Objects", "checkFromToIndex", "(III)I"⟩ : MethodName)) hown (mvT hZ (hw _ (List.mem_of_getElem? (i := 9) rfl))) (mvT hZ (hw _ (List.mem_of_getElem? (i := 10) rfl))) (mvT hZ (hw _ (List.mem_of_getElem? (i := 11) rfl))) (mvT hZ (hw _ (List.mem_of_getElem? (i := 12) rfl))) (by decide) (backOf (W := 0) (rm3 l Z a0 hw [] u v 8 h0 (iv_nlt' (k := 0) rfl hk0) (by rw [Int32.lt_iff_toInt_lt]; omega) (iv_ngt' (k := 8) rfl hq)) hZ (hw _ (List.mem_of_getElem? (i := 12) rfl)) (hw _ (List.mem_of_getElem? (i := 11) rfl)) (by decide) (by decide)) (g := (mkF m 4 #[.val (.ref a), .val (.int u), .val (.int v), .unset, .unset] [(.int (8 : Int32)), (.int v), (.int u)])) rfl (by rw [hml]; rfl) (argsL := [(.int u), (.int v), (.int (8 : Int32))]) (rest := []) (lenOf pd_1 rfl) rfl (by show 2 * 0 + _ ≤ _; exact Nat.le_of_eq rfl) (hb hby d2_4) (fun _ _ => ⟨rfl, e0, (by decide : 0 + 0 ≤ _), (by decide : 0 + 0 ≤ _)⟩)
  dsimp only [Pt.U, Pt.locs, Pt.cells, Pt.slots] at X5 l5 y5 z5 st5 hQ5
  subst l5 y5 z5
  obtain ⟨rfl, rfl, e5⟩ := hQ5
  refine Gl.go ?_ st5
  show Gl _ _ _ _ (T5.setTop (mkF m 7 #[.val (.ref a), .val (.int u), .val (.int v), .unset, .unset] [(.int u)]))
  refine Gl.go ?_ (fun t k => XS.pop X5.here hx rfl (hb hby d2_7) rfl rfl k)
  show Gl _ _ _ _ (T5.setTop (mkF m 8 #[.val (.ref a), .val (.int u), .val (.int v), .unset, .unset] []))
  refine Gl.go ?_ (fun t k => XS.iconst X5.here hx rfl (hb hby d2_8) k)
  show Gl _ _ _ _ (T5.setTop (mkF m 9 #[.val (.ref a), .val (.int u), .val (.int v), .unset, .unset] [(.int (0 : Int32))]))
  refine Gl.go ?_ (fun t k => XS.istoreN X5.here hx rfl (hb hby d2_9) rfl (l' := #[.val (.ref a), .val (.int u), .val (.int v), .val (.int (0 : Int32)), .unset]) rfl k)
  show Gl _ _ _ _ (T5.setTop (mkF m 10 #[.val (.ref a), .val (.int u), .val (.int v), .val (.int (0 : Int32)), .unset] []))
  refine Gl.go ?_ (fun t k => XS.iloadN X5.here hx rfl (hb hby d2_10) rfl k)
  show Gl _ _ _ _ (T5.setTop (mkF m 11 #[.val (.ref a), .val (.int u), .val (.int v), .val (.int (0 : Int32)), .unset] [(.int u)]))
  refine Gl.go ?_ (fun t k => XS.istore X5.here hx rfl (hb hby d2_11) rfl (l' := #[.val (.ref a), .val (.int u), .val (.int v), .val (.int (0 : Int32)), .val (.int u)]) rfl k)
  refine loop_of X5 hx hZ hby e5 a u v B hB hq (v.toInt - u.toInt).toNat u 0 hk0 (own_len hk0 hpq) (fun j => ?_)
  show Gl _ _ _ _ (T5.setTop (mkF m 36 #[.val (.ref a), .val (.int u), .val (.int v), .val (.int (f_sum B (v.toInt - u.toInt).toNat u 0)), .val (.int j)] []))
  refine Gl.go ?_ (fun t k => XS.iloadN X5.here hx rfl (hb hby d2_36) rfl k)
  show Gl _ _ _ _ (T5.setTop (mkF m 37 #[.val (.ref a), .val (.int u), .val (.int v), .val (.int (f_sum B (v.toInt - u.toInt).toNat u 0)), .val (.int j)] [(.int (f_sum B (v.toInt - u.toInt).toNat u 0))]))
  refine Gl.go ?_ (fun t k => XS.sipush X5.here hx rfl (hb hby d2_37) k)
  show Gl _ _ _ _ (T5.setTop (mkF m 40 #[.val (.ref a), .val (.int u), .val (.int v), .val (.int (f_sum B (v.toInt - u.toInt).toNat u 0)), .val (.int j)] [(.int (255 : Int32)), (.int (f_sum B (v.toInt - u.toInt).toNat u 0))]))
  refine Gl.go ?_ (fun t k => XS.iand X5.here hx rfl (hb hby d2_40) rfl k)
  show Gl _ _ _ _ (T5.setTop (mkF m 41 #[.val (.ref a), .val (.int u), .val (.int v), .val (.int (f_sum B (v.toInt - u.toInt).toNat u 0)), .val (.int j)] [(.int ((f_sum B (v.toInt - u.toInt).toNat u 0) &&& (255 : Int32)))]))
  obtain ⟨fs, hr, hrun, hended, hW, hsame⟩ := X5.leave (v := some (.int ((f_sum B (v.toInt - u.toInt).toNat u 0) &&& (255 : Int32)))) (fun h => by rw [Bd.returns] at h; cases h) (BodyLoose.notSynchronized Bd)
  exact Gl.mk ⟨_, _, retI X5 hx Bd.returns (hb hby d2_41) hr, hrun, hended, _, _, rfl, ⟨congrArg (fun z => some (Value.int z)) (rfl).symm, rfl, e5⟩, ⟨_, rfl⟩, hW, hsame.mono (by decide) (by decide)⟩
theorem pn_0 : plainName "com/example/clotwire/clotwire/link/ChecksumOfPinLaw" = true := by first | (simp [plainName, overriddenIn]; done) | decide +kernel
theorem pd_2 : parseMethodDescriptor "([BIII)I" = some ⟨[(.array .byte), .int, .int, .int], some .int⟩ := by decide +kernel
theorem pd_3 : parseMethodDescriptor "([BII)I" = some ⟨[(.array .byte), .int, .int], some .int⟩ := by decide +kernel
def own_bs (lo hi : Int32) : Int32 → Int32 := nth [(nar .byte (lo.toInt8.toInt32)), (nar .byte ((lo >>> ((8 : Int32) &&& 31)).toInt8.toInt32)), (nar .byte ((lo >>> ((16 : Int32) &&& 31)).toInt8.toInt32)), (nar .byte ((lo >>> ((24 : Int32) &&& 31)).toInt8.toInt32)), (nar .byte (hi.toInt8.toInt32)), (nar .byte ((hi >>> ((8 : Int32) &&& 31)).toInt8.toInt32)), (nar .byte ((hi >>> ((16 : Int32) &&& 31)).toInt8.toInt32)), (nar .byte ((hi >>> ((24 : Int32) &&& 31)).toInt8.toInt32))]
def f_law (lo hi fr to : Int32) : Int32 := (if (f_of fr to (own_bs lo hi)) = (((((((((f_term (0 : Int32) fr to (own_bs lo hi)) + (f_term (1 : Int32) fr to (own_bs lo hi))) + (f_term (2 : Int32) fr to (own_bs lo hi))) + (f_term (3 : Int32) fr to (own_bs lo hi))) + (f_term (4 : Int32) fr to (own_bs lo hi))) + (f_term (5 : Int32) fr to (own_bs lo hi))) + (f_term (6 : Int32) fr to (own_bs lo hi))) + (f_term (7 : Int32) fr to (own_bs lo hi))) % (256 : Int32)) then (1 : Int32) else (0 : Int32))
theorem ef_rm0 (m : MethodId) (x0 : Int32) (x1 : Int32) (x2 : Int32) (x3 : Int32) : entryFrame m #[(.int x0), (.int x1), (.int x2), (.int x3)] maxLocals = mkF m 0 #[.val (.int x0), .val (.int x1), .val (.int x2), .val (.int x3), .unset, .unset, .unset, .unset, .unset] [] := by first | (simp [entryFrame, mkF, argsToLocals, Value.category, maxLocals]; done) | rfl
set_option maxRecDepth 65536 in
set_option maxHeartbeats 40000000 in
theorem rm0 (l : Launch) (Z : State) (a0 : Array Value) (hw : ∀ d ∈ tables_1, d.before a0 Z = true) (ws : List Jvm.Cond) (lo : Int32) (hi : Int32) (st0 : Int32) (sp : Int32) (fr to : Int32) (h0 : Heap) (n0 : Nat) (Z0 : n0 ≤ h0.size) (hfr : (st0 &&& (15 : Int32)) % (9 : Int32) = fr) (hnz : (9 : Int32) - fr ≠ 0) (hto : fr + (sp &&& (15 : Int32)) % ((9 : Int32) - fr) = to) (hk0 : 0 ≤ fr.toInt) (hpq : fr.toInt ≤ to.toInt) (hq : to.toInt ≤ 8) :
    MetFree l x (head1 (Jvm.Cond.code x code maxLocals ret :: ws) room_1) (fun aQ U => aQ = #[(.int lo), (.int hi), (.int st0), (.int sp)] ∧ Z.Warmed39 U.vm ∧ U.heap = h0) (fun _ _ _ _ _ => True) (fun _ U o U' => ∃ vQ LQ, o = .returned vQ ∧ (vQ = some (.int (f_law lo hi fr to)) ∧ Fr n0 LQ) ∧ FrameEnd U o U' LQ room_1.cells room_1.slots) := by
  refine MetFree.of_bodySF (plainFor_of_name pn_0) hisR ?_
  intro p e s m args below meth c s₁ Bd hml0 hP hK
  obtain ⟨rfl, hZ, hh⟩ := hP
  have hx := Bd.exec
  have hby := Bd.bytes
  have hml : c.maxLocals = 9 := hml0
  have hown : s.vm.findClass "com/example/clotwire/clotwire/link/ChecksumOfPinLaw" = some m.cls := findClass_of_methodNamed Bd.named
  have hnm := (name_of_methodNamed Bd.named Bd.method).1
  have X0 : Stand p l e room_1 s m #[(.int lo), (.int hi), (.int st0), (.int sp)] below meth c s₁ [] 0 0 := Stand.of_body Bd
  have e0 : s₁.heap = h0 := by rw [← hh, Bd.state]; rfl
  have NF := Fr.nil n0
  refine Gl.out ?_
  refine Gl.go ?_ (fun t k => castTop (ef_rm0 m lo hi st0 sp) k)
  show Gl _ _ _ _ (s₁.setTop (mkF m 0 #[.val (.int lo), .val (.int hi), .val (.int st0), .val (.int sp), .unset, .unset, .unset, .unset, .unset] []))
  refine Gl.go ?_ (fun t k => XS.bipush X0.here hx rfl (hb hby at_0) k)
  show Gl _ _ _ _ (s₁.setTop (mkF m 2 #[.val (.int lo), .val (.int hi), .val (.int st0), .val (.int sp), .unset, .unset, .unset, .unset, .unset] [(.int (8 : Int32))]))
  obtain ⟨T6, h6, k6, X6, e6, E6, A6, st6⟩ := newP X0 hx hZ (hw _ (List.mem_of_getElem? (i := 0) rfl)) e0 (g := (mkF m 2 #[.val (.int lo), .val (.int hi), .val (.int st0), .val (.int sp), .unset, .unset, .unset, .unset, .unset] [(.int (8 : Int32))])) rfl (hb hby at_2) rfl (by decide) (cap := 8) (by decide) (by decide) (by decide) (by decide)
  obtain ⟨b6, g6⟩ : ∃ z, z = h0.size := ⟨_, rfl⟩
  rw [← g6] at A6 st6
  have g_b6 : n0 ≤ b6 := Nat.le_trans Z0 (Nat.le_of_eq g6.symm)
  have Z0 := Nat.le_trans Z0 E6.1
  have V_b6 : Arv Z h6 b6 k6 .byte (8 : Int32) [(.int (0 : Int32)), (.int (0 : Int32)), (.int (0 : Int32)), (.int (0 : Int32)), (.int (0 : Int32)), (.int (0 : Int32)), (.int (0 : Int32)), (.int (0 : Int32))] (.int (0 : Int32)) := (Arv.new A6 (by decide)).pad (pad_rep [] (.int (0 : Int32)) 8)
  refine Gl.go ?_ st6
  show Gl _ _ _ _ (T6.setTop (mkF m 4 #[.val (.int lo), .val (.int hi), .val (.int st0), .val (.int sp), .unset, .unset, .unset, .unset, .unset] [(.ref b6)]))
  refine Gl.go ?_ (fun t k => XS.dup X6.here hx rfl (hb hby at_4) rfl rfl k)
  show Gl _ _ _ _ (T6.setTop (mkF m 5 #[.val (.int lo), .val (.int hi), .val (.int st0), .val (.int sp), .unset, .unset, .unset, .unset, .unset] [(.ref b6), (.ref b6)]))
  refine Gl.go ?_ (fun t k => XS.iconst X6.here hx rfl (hb hby at_5) k)
  show Gl _ _ _ _ (T6.setTop (mkF m 6 #[.val (.int lo), .val (.int hi), .val (.int st0), .val (.int sp), .unset, .unset, .unset, .unset, .unset] [(.int (0 : Int32)), (.ref b6), (.ref b6)]))
  refine Gl.go ?_ (fun t k => XS.iloadN X6.here hx rfl (hb hby at_6) rfl k)
  show Gl _ _ _ _ (T6.setTop (mkF m 7 #[.val (.int lo), .val (.int hi), .val (.int st0), .val (.int sp), .unset, .unset, .unset, .unset, .unset] [(.int lo), (.int (0 : Int32)), (.ref b6), (.ref b6)]))
  refine Gl.go ?_ (fun t k => XS.i2b X6.here hx rfl (hb hby at_7) rfl k)
  show Gl _ _ _ _ (T6.setTop (mkF m 8 #[.val (.int lo), .val (.int hi), .val (.int st0), .val (.int sp), .unset, .unset, .unset, .unset, .unset] [(.int (lo.toInt8.toInt32)), (.int (0 : Int32)), (.ref b6), (.ref b6)]))
  obtain ⟨cl7, Ar7, q7, S7, N7, Hh7, G7⟩ := V_b6
  obtain ⟨T7, h7, X7, e7, W7, st7⟩ := stB X6 hx hZ e6 Ar7 (j := (0 : Int32)) (inb_of S7 ⟨by decide, by decide⟩) (g := (mkF m 8 #[.val (.int lo), .val (.int hi), .val (.int st0), .val (.int sp), .unset, .unset, .unset, .unset, .unset] [(.int (lo.toInt8.toInt32)), (.int (0 : Int32)), (.ref b6), (.ref b6)])) rfl rfl (hb hby at_8)
  have Z0 := Nat.le_trans Z0 (Keep.of_wr W7).1
  have V_b6 : Arv Z h7 b6 k6 .byte (8 : Int32) [(.int (nar .byte (lo.toInt8.toInt32))), (.int (0 : Int32)), (.int (0 : Int32)), (.int (0 : Int32)), (.int (0 : Int32)), (.int (0 : Int32)), (.int (0 : Int32)), (.int (0 : Int32))] (.int (0 : Int32)) := Arv.set Ar7 q7 S7 N7 Hh7 G7 (fits_nar_byte _) W7 0 rfl (Nat.le_of_ble_eq_true rfl)
  have NF := Fr.snoc X7 NF g_b6
  refine Gl.go ?_ st7
  show Gl _ _ _ _ (T7.setTop (mkF m 9 #[.val (.int lo), .val (.int hi), .val (.int st0), .val (.int sp), .unset, .unset, .unset, .unset, .unset] [(.ref b6)]))
  refine Gl.go ?_ (fun t k => XS.dup X7.here hx rfl (hb hby at_9) rfl rfl k)
  show Gl _ _ _ _ (T7.setTop (mkF m 10 #[.val (.int lo), .val (.int hi), .val (.int st0), .val (.int sp), .unset, .unset, .unset, .unset, .unset] [(.ref b6), (.ref b6)]))
  refine Gl.go ?_ (fun t k => XS.iconst X7.here hx rfl (hb hby at_10) k)
  show Gl _ _ _ _ (T7.setTop (mkF m 11 #[.val (.int lo), .val (.int hi), .val (.int st0), .val (.int sp), .unset, .unset, .unset, .unset, .unset] [(.int (1 : Int32)), (.ref b6), (.ref b6)]))
  refine Gl.go ?_ (fun t k => XS.iloadN X7.here hx rfl (hb hby at_11) rfl k)
  show Gl _ _ _ _ (T7.setTop (mkF m 12 #[.val (.int lo), .val (.int hi), .val (.int st0), .val (.int sp), .unset, .unset, .unset, .unset, .unset] [(.int lo), (.int (1 : Int32)), (.ref b6), (.ref b6)]))
  refine Gl.go ?_ (fun t k => XS.bipush X7.here hx rfl (hb hby at_12) k)
  show Gl _ _ _ _ (T7.setTop (mkF m 14 #[.val (.int lo), .val (.int hi), .val (.int st0), .val (.int sp), .unset, .unset, .unset, .unset, .unset] [(.int (8 : Int32)), (.int lo), (.int (1 : Int32)), (.ref b6), (.ref b6)]))
  refine Gl.go ?_ (fun t k => XS.ishr X7.here hx rfl (hb hby at_14) rfl k)
  show Gl _ _ _ _ (T7.setTop (mkF m 15 #[.val (.int lo), .val (.int hi), .val (.int st0), .val (.int sp), .unset, .unset, .unset, .unset, .unset] [(.int (lo >>> ((8 : Int32) &&& 31))), (.int (1 : Int32)), (.ref b6), (.ref b6)]))
  refine Gl.go ?_ (fun t k => XS.i2b X7.here hx rfl (hb hby at_15) rfl k)
  show Gl _ _ _ _ (T7.setTop (mkF m 16 #[.val (.int lo), .val (.int hi), .val (.int st0), .val (.int sp), .unset, .unset, .unset, .unset, .unset] [(.int ((lo >>> ((8 : Int32) &&& 31)).toInt8.toInt32)), (.int (1 : Int32)), (.ref b6), (.ref b6)]))
  obtain ⟨cl8, Ar8, q8, S8, N8, Hh8, G8⟩ := V_b6
  obtain ⟨T8, h8, X8, e8, W8, st8⟩ := stB X7 hx hZ e7 Ar8 (j := (1 : Int32)) (inb_of S8 ⟨by decide, by decide⟩) (g := (mkF m 16 #[.val (.int lo), .val (.int hi), .val (.int st0), .val (.int sp), .unset, .unset, .unset, .unset, .unset] [(.int ((lo >>> ((8 : Int32) &&& 31)).toInt8.toInt32)), (.int (1 : Int32)), (.ref b6), (.ref b6)])) rfl rfl (hb hby at_16)
  have Z0 := Nat.le_trans Z0 (Keep.of_wr W8).1
  have V_b6 : Arv Z h8 b6 k6 .byte (8 : Int32) [(.int (nar .byte (lo.toInt8.toInt32))), (.int (nar .byte ((lo >>> ((8 : Int32) &&& 31)).toInt8.toInt32))), (.int (0 : Int32)), (.int (0 : Int32)), (.int (0 : Int32)), (.int (0 : Int32)), (.int (0 : Int32)), (.int (0 : Int32))] (.int (0 : Int32)) := Arv.set Ar8 q8 S8 N8 Hh8 G8 (fits_nar_byte _) W8 1 rfl (Nat.le_of_ble_eq_true rfl)
  have NF := Fr.snoc X8 NF g_b6
  refine Gl.go ?_ st8
  show Gl _ _ _ _ (T8.setTop (mkF m 17 #[.val (.int lo), .val (.int hi), .val (.int st0), .val (.int sp), .unset, .unset, .unset, .unset, .unset] [(.ref b6)]))
  refine Gl.go ?_ (fun t k => XS.dup X8.here hx rfl (hb hby at_17) rfl rfl k)
  show Gl _ _ _ _ (T8.setTop (mkF m 18 #[.val (.int lo), .val (.int hi), .val (.int st0), .val (.int sp), .unset, .unset, .unset, .unset, .unset] [(.ref b6), (.ref b6)]))
  refine Gl.go ?_ (fun t k => XS.iconst X8.here hx rfl (hb hby at_18) k)
  show Gl _ _ _ _ (T8.setTop (mkF m 19 #[.val (.int lo), .val (.int hi), .val (.int st0), .val (.int sp), .unset, .unset, .unset, .unset, .unset] [(.int (2 : Int32)), (.ref b6), (.ref b6)]))
  refine Gl.go ?_ (fun t k => XS.iloadN X8.here hx rfl (hb hby at_19) rfl k)
  show Gl _ _ _ _ (T8.setTop (mkF m 20 #[.val (.int lo), .val (.int hi), .val (.int st0), .val (.int sp), .unset, .unset, .unset, .unset, .unset] [(.int lo), (.int (2 : Int32)), (.ref b6), (.ref b6)]))
  refine Gl.go ?_ (fun t k => XS.bipush X8.here hx rfl (hb hby at_20) k)
  show Gl _ _ _ _ (T8.setTop (mkF m 22 #[.val (.int lo), .val (.int hi), .val (.int st0), .val (.int sp), .unset, .unset, .unset, .unset, .unset] [(.int (16 : Int32)), (.int lo), (.int (2 : Int32)), (.ref b6), (.ref b6)]))
  refine Gl.go ?_ (fun t k => XS.ishr X8.here hx rfl (hb hby at_22) rfl k)
  show Gl _ _ _ _ (T8.setTop (mkF m 23 #[.val (.int lo), .val (.int hi), .val (.int st0), .val (.int sp), .unset, .unset, .unset, .unset, .unset] [(.int (lo >>> ((16 : Int32) &&& 31))), (.int (2 : Int32)), (.ref b6), (.ref b6)]))
  refine Gl.go ?_ (fun t k => XS.i2b X8.here hx rfl (hb hby at_23) rfl k)
  show Gl _ _ _ _ (T8.setTop (mkF m 24 #[.val (.int lo), .val (.int hi), .val (.int st0), .val (.int sp), .unset, .unset, .unset, .unset, .unset] [(.int ((lo >>> ((16 : Int32) &&& 31)).toInt8.toInt32)), (.int (2 : Int32)), (.ref b6), (.ref b6)]))
  obtain ⟨cl9, Ar9, q9, S9, N9, Hh9, G9⟩ := V_b6
  obtain ⟨T9, h9, X9, e9, W9, st9⟩ := stB X8 hx hZ e8 Ar9 (j := (2 : Int32)) (inb_of S9 ⟨by decide, by decide⟩) (g := (mkF m 24 #[.val (.int lo), .val (.int hi), .val (.int st0), .val (.int sp), .unset, .unset, .unset, .unset, .unset] [(.int ((lo >>> ((16 : Int32) &&& 31)).toInt8.toInt32)), (.int (2 : Int32)), (.ref b6), (.ref b6)])) rfl rfl (hb hby at_24)
  have Z0 := Nat.le_trans Z0 (Keep.of_wr W9).1
  have V_b6 : Arv Z h9 b6 k6 .byte (8 : Int32) [(.int (nar .byte (lo.toInt8.toInt32))), (.int (nar .byte ((lo >>> ((8 : Int32) &&& 31)).toInt8.toInt32))), (.int (nar .byte ((lo >>> ((16 : Int32) &&& 31)).toInt8.toInt32))), (.int (0 : Int32)), (.int (0 : Int32)), (.int (0 : Int32)), (.int (0 : Int32)), (.int (0 : Int32))] (.int (0 : Int32)) := Arv.set Ar9 q9 S9 N9 Hh9 G9 (fits_nar_byte _) W9 2 rfl (Nat.le_of_ble_eq_true rfl)
  have NF := Fr.snoc X9 NF g_b6
  refine Gl.go ?_ st9
  show Gl _ _ _ _ (T9.setTop (mkF m 25 #[.val (.int lo), .val (.int hi), .val (.int st0), .val (.int sp), .unset, .unset, .unset, .unset, .unset] [(.ref b6)]))
  refine Gl.go ?_ (fun t k => XS.dup X9.here hx rfl (hb hby at_25) rfl rfl k)
  show Gl _ _ _ _ (T9.setTop (mkF m 26 #[.val (.int lo), .val (.int hi), .val (.int st0), .val (.int sp), .unset, .unset, .unset, .unset, .unset] [(.ref b6), (.ref b6)]))
  refine Gl.go ?_ (fun t k => XS.iconst X9.here hx rfl (hb hby at_26) k)
  show Gl _ _ _ _ (T9.setTop (mkF m 27 #[.val (.int lo), .val (.int hi), .val (.int st0), .val (.int sp), .unset, .unset, .unset, .unset, .unset] [(.int (3 : Int32)), (.ref b6), (.ref b6)]))
  refine Gl.go ?_ (fun t k => XS.iloadN X9.here hx rfl (hb hby at_27) rfl k)
  show Gl _ _ _ _ (T9.setTop (mkF m 28 #[.val (.int lo), .val (.int hi), .val (.int st0), .val (.int sp), .unset, .unset, .unset, .unset, .unset] [(.int lo), (.int (3 : Int32)), (.ref b6), (.ref b6)]))
  refine Gl.go ?_ (fun t k => XS.bipush X9.here hx rfl (hb hby at_28) k)
  show Gl _ _ _ _ (T9.setTop (mkF m 30 #[.val (.int lo), .val (.int hi), .val (.int st0), .val (.int sp), .unset, .unset, .unset, .unset, .unset] [(.int (24 : Int32)), (.int lo), (.int (3 : Int32)), (.ref b6), (.ref b6)]))
  refine Gl.go ?_ (fun t k => XS.ishr X9.here hx rfl (hb hby at_30) rfl k)
  show Gl _ _ _ _ (T9.setTop (mkF m 31 #[.val (.int lo), .val (.int hi), .val (.int st0), .val (.int sp), .unset, .unset, .unset, .unset, .unset] [(.int (lo >>> ((24 : Int32) &&& 31))), (.int (3 : Int32)), (.ref b6), (.ref b6)]))
  refine Gl.go ?_ (fun t k => XS.i2b X9.here hx rfl (hb hby at_31) rfl k)
  show Gl _ _ _ _ (T9.setTop (mkF m 32 #[.val (.int lo), .val (.int hi), .val (.int st0), .val (.int sp), .unset, .unset, .unset, .unset, .unset] [(.int ((lo >>> ((24 : Int32) &&& 31)).toInt8.toInt32)), (.int (3 : Int32)), (.ref b6), (.ref b6)]))
  obtain ⟨cl10, Ar10, q10, S10, N10, Hh10, G10⟩ := V_b6
  obtain ⟨T10, h10, X10, e10, W10, st10⟩ := stB X9 hx hZ e9 Ar10 (j := (3 : Int32)) (inb_of S10 ⟨by decide, by decide⟩) (g := (mkF m 32 #[.val (.int lo), .val (.int hi), .val (.int st0), .val (.int sp), .unset, .unset, .unset, .unset, .unset] [(.int ((lo >>> ((24 : Int32) &&& 31)).toInt8.toInt32)), (.int (3 : Int32)), (.ref b6), (.ref b6)])) rfl rfl (hb hby at_32)
  have Z0 := Nat.le_trans Z0 (Keep.of_wr W10).1
  have V_b6 : Arv Z h10 b6 k6 .byte (8 : Int32) [(.int (nar .byte (lo.toInt8.toInt32))), (.int (nar .byte ((lo >>> ((8 : Int32) &&& 31)).toInt8.toInt32))), (.int (nar .byte ((lo >>> ((16 : Int32) &&& 31)).toInt8.toInt32))), (.int (nar .byte ((lo >>> ((24 : Int32) &&& 31)).toInt8.toInt32))), (.int (0 : Int32)), (.int (0 : Int32)), (.int (0 : Int32)), (.int (0 : Int32))] (.int (0 : Int32)) := Arv.set Ar10 q10 S10 N10 Hh10 G10 (fits_nar_byte _) W10 3 rfl (Nat.le_of_ble_eq_true rfl)
  have NF := Fr.snoc X10 NF g_b6
  refine Gl.go ?_ st10
  show Gl _ _ _ _ (T10.setTop (mkF m 33 #[.val (.int lo), .val (.int hi), .val (.int st0), .val (.int sp), .unset, .unset, .unset, .unset, .unset] [(.ref b6)]))
  refine Gl.go ?_ (fun t k => XS.dup X10.here hx rfl (hb hby at_33) rfl rfl k)
  show Gl _ _ _ _ (T10.setTop (mkF m 34 #[.val (.int lo), .val (.int hi), .val (.int st0), .val (.int sp), .unset, .unset, .unset, .unset, .unset] [(.ref b6), (.ref b6)]))
  refine Gl.go ?_ (fun t k => XS.iconst X10.here hx rfl (hb hby at_34) k)
  show Gl _ _ _ _ (T10.setTop (mkF m 35 #[.val (.int lo), .val (.int hi), .val (.int st0), .val (.int sp), .unset, .unset, .unset, .unset, .unset] [(.int (4 : Int32)), (.ref b6), (.ref b6)]))
  refine Gl.go ?_ (fun t k => XS.iloadN X10.here hx rfl (hb hby at_35) rfl k)
  show Gl _ _ _ _ (T10.setTop (mkF m 36 #[.val (.int lo), .val (.int hi), .val (.int st0), .val (.int sp), .unset, .unset, .unset, .unset, .unset] [(.int hi), (.int (4 : Int32)), (.ref b6), (.ref b6)]))
  refine Gl.go ?_ (fun t k => XS.i2b X10.here hx rfl (hb hby at_36) rfl k)
  show Gl _ _ _ _ (T10.setTop (mkF m 37 #[.val (.int lo), .val (.int hi), .val (.int st0), .val (.int sp), .unset, .unset, .unset, .unset, .unset] [(.int (hi.toInt8.toInt32)), (.int (4 : Int32)), (.ref b6), (.ref b6)]))
  obtain ⟨cl11, Ar11, q11, S11, N11, Hh11, G11⟩ := V_b6
  obtain ⟨T11, h11, X11, e11, W11, st11⟩ := stB X10 hx hZ e10 Ar11 (j := (4 : Int32)) (inb_of S11 ⟨by decide, by decide⟩) (g := (mkF m 37 #[.val (.int lo), .val (.int hi), .val (.int st0), .val (.int sp), .unset, .unset, .unset, .unset, .unset] [(.int (hi.toInt8.toInt32)), (.int (4 : Int32)), (.ref b6), (.ref b6)])) rfl rfl (hb hby at_37)
  have Z0 := Nat.le_trans Z0 (Keep.of_wr W11).1
  have V_b6 : Arv Z h11 b6 k6 .byte (8 : Int32) [(.int (nar .byte (lo.toInt8.toInt32))), (.int (nar .byte ((lo >>> ((8 : Int32) &&& 31)).toInt8.toInt32))), (.int (nar .byte ((lo >>> ((16 : Int32) &&& 31)).toInt8.toInt32))), (.int (nar .byte ((lo >>> ((24 : Int32) &&& 31)).toInt8.toInt32))), (.int (nar .byte (hi.toInt8.toInt32))), (.int (0 : Int32)), (.int (0 : Int32)), (.int (0 : Int32))] (.int (0 : Int32)) := Arv.set Ar11 q11 S11 N11 Hh11 G11 (fits_nar_byte _) W11 4 rfl (Nat.le_of_ble_eq_true rfl)
  have NF := Fr.snoc X11 NF g_b6
  refine Gl.go ?_ st11
  show Gl _ _ _ _ (T11.setTop (mkF m 38 #[.val (.int lo), .val (.int hi), .val (.int st0), .val (.int sp), .unset, .unset, .unset, .unset, .unset] [(.ref b6)]))
  refine Gl.go ?_ (fun t k => XS.dup X11.here hx rfl (hb hby at_38) rfl rfl k)
  show Gl _ _ _ _ (T11.setTop (mkF m 39 #[.val (.int lo), .val (.int hi), .val (.int st0), .val (.int sp), .unset, .unset, .unset, .unset, .unset] [(.ref b6), (.ref b6)]))
  refine Gl.go ?_ (fun t k => XS.iconst X11.here hx rfl (hb hby at_39) k)
  show Gl _ _ _ _ (T11.setTop (mkF m 40 #[.val (.int lo), .val (.int hi), .val (.int st0), .val (.int sp), .unset, .unset, .unset, .unset, .unset] [(.int (5 : Int32)), (.ref b6), (.ref b6)]))
  refine Gl.go ?_ (fun t k => XS.iloadN X11.here hx rfl (hb hby at_40) rfl k)
  show Gl _ _ _ _ (T11.setTop (mkF m 41 #[.val (.int lo), .val (.int hi), .val (.int st0), .val (.int sp), .unset, .unset, .unset, .unset, .unset] [(.int hi), (.int (5 : Int32)), (.ref b6), (.ref b6)]))
  refine Gl.go ?_ (fun t k => XS.bipush X11.here hx rfl (hb hby at_41) k)
  show Gl _ _ _ _ (T11.setTop (mkF m 43 #[.val (.int lo), .val (.int hi), .val (.int st0), .val (.int sp), .unset, .unset, .unset, .unset, .unset] [(.int (8 : Int32)), (.int hi), (.int (5 : Int32)), (.ref b6), (.ref b6)]))
  refine Gl.go ?_ (fun t k => XS.ishr X11.here hx rfl (hb hby at_43) rfl k)
  show Gl _ _ _ _ (T11.setTop (mkF m 44 #[.val (.int lo), .val (.int hi), .val (.int st0), .val (.int sp), .unset, .unset, .unset, .unset, .unset] [(.int (hi >>> ((8 : Int32) &&& 31))), (.int (5 : Int32)), (.ref b6), (.ref b6)]))
  refine Gl.go ?_ (fun t k => XS.i2b X11.here hx rfl (hb hby at_44) rfl k)
  show Gl _ _ _ _ (T11.setTop (mkF m 45 #[.val (.int lo), .val (.int hi), .val (.int st0), .val (.int sp), .unset, .unset, .unset, .unset, .unset] [(.int ((hi >>> ((8 : Int32) &&& 31)).toInt8.toInt32)), (.int (5 : Int32)), (.ref b6), (.ref b6)]))
  obtain ⟨cl12, Ar12, q12, S12, N12, Hh12, G12⟩ := V_b6
  obtain ⟨T12, h12, X12, e12, W12, st12⟩ := stB X11 hx hZ e11 Ar12 (j := (5 : Int32)) (inb_of S12 ⟨by decide, by decide⟩) (g := (mkF m 45 #[.val (.int lo), .val (.int hi), .val (.int st0), .val (.int sp), .unset, .unset, .unset, .unset, .unset] [(.int ((hi >>> ((8 : Int32) &&& 31)).toInt8.toInt32)), (.int (5 : Int32)), (.ref b6), (.ref b6)])) rfl rfl (hb hby at_45)
  have Z0 := Nat.le_trans Z0 (Keep.of_wr W12).1
  have V_b6 : Arv Z h12 b6 k6 .byte (8 : Int32) [(.int (nar .byte (lo.toInt8.toInt32))), (.int (nar .byte ((lo >>> ((8 : Int32) &&& 31)).toInt8.toInt32))), (.int (nar .byte ((lo >>> ((16 : Int32) &&& 31)).toInt8.toInt32))), (.int (nar .byte ((lo >>> ((24 : Int32) &&& 31)).toInt8.toInt32))), (.int (nar .byte (hi.toInt8.toInt32))), (.int (nar .byte ((hi >>> ((8 : Int32) &&& 31)).toInt8.toInt32))), (.int (0 : Int32)), (.int (0 : Int32))] (.int (0 : Int32)) := Arv.set Ar12 q12 S12 N12 Hh12 G12 (fits_nar_byte _) W12 5 rfl (Nat.le_of_ble_eq_true rfl)
  have NF := Fr.snoc X12 NF g_b6
  refine Gl.go ?_ st12
  show Gl _ _ _ _ (T12.setTop (mkF m 46 #[.val (.int lo), .val (.int hi), .val (.int st0), .val (.int sp), .unset, .unset, .unset, .unset, .unset] [(.ref b6)]))
  refine Gl.go ?_ (fun t k => XS.dup X12.here hx rfl (hb hby at_46) rfl rfl k)
  show Gl _ _ _ _ (T12.setTop (mkF m 47 #[.val (.int lo), .val (.int hi), .val (.int st0), .val (.int sp), .unset, .unset, .unset, .unset, .unset] [(.ref b6), (.ref b6)]))
  refine Gl.go ?_ (fun t k => XS.bipush X12.here hx rfl (hb hby at_47) k)
  show Gl _ _ _ _ (T12.setTop (mkF m 49 #[.val (.int lo), .val (.int hi), .val (.int st0), .val (.int sp), .unset, .unset, .unset, .unset, .unset] [(.int (6 : Int32)), (.ref b6), (.ref b6)]))
  refine Gl.go ?_ (fun t k => XS.iloadN X12.here hx rfl (hb hby at_49) rfl k)
  show Gl _ _ _ _ (T12.setTop (mkF m 50 #[.val (.int lo), .val (.int hi), .val (.int st0), .val (.int sp), .unset, .unset, .unset, .unset, .unset] [(.int hi), (.int (6 : Int32)), (.ref b6), (.ref b6)]))
  refine Gl.go ?_ (fun t k => XS.bipush X12.here hx rfl (hb hby at_50) k)
  show Gl _ _ _ _ (T12.setTop (mkF m 52 #[.val (.int lo), .val (.int hi), .val (.int st0), .val (.int sp), .unset, .unset, .unset, .unset, .unset] [(.int (16 : Int32)), (.int hi), (.int (6 : Int32)), (.ref b6), (.ref b6)]))
  refine Gl.go ?_ (fun t k => XS.ishr X12.here hx rfl (hb hby at_52) rfl k)
  show Gl _ _ _ _ (T12.setTop (mkF m 53 #[.val (.int lo), .val (.int hi), .val (.int st0), .val (.int sp), .unset, .unset, .unset, .unset, .unset] [(.int (hi >>> ((16 : Int32) &&& 31))), (.int (6 : Int32)), (.ref b6), (.ref b6)]))
  refine Gl.go ?_ (fun t k => XS.i2b X12.here hx rfl (hb hby at_53) rfl k)
  show Gl _ _ _ _ (T12.setTop (mkF m 54 #[.val (.int lo), .val (.int hi), .val (.int st0), .val (.int sp), .unset, .unset, .unset, .unset, .unset] [(.int ((hi >>> ((16 : Int32) &&& 31)).toInt8.toInt32)), (.int (6 : Int32)), (.ref b6), (.ref b6)]))
  obtain ⟨cl13, Ar13, q13, S13, N13, Hh13, G13⟩ := V_b6
  obtain ⟨T13, h13, X13, e13, W13, st13⟩ := stB X12 hx hZ e12 Ar13 (j := (6 : Int32)) (inb_of S13 ⟨by decide, by decide⟩) (g := (mkF m 54 #[.val (.int lo), .val (.int hi), .val (.int st0), .val (.int sp), .unset, .unset, .unset, .unset, .unset] [(.int ((hi >>> ((16 : Int32) &&& 31)).toInt8.toInt32)), (.int (6 : Int32)), (.ref b6), (.ref b6)])) rfl rfl (hb hby at_54)
  have Z0 := Nat.le_trans Z0 (Keep.of_wr W13).1
  have V_b6 : Arv Z h13 b6 k6 .byte (8 : Int32) [(.int (nar .byte (lo.toInt8.toInt32))), (.int (nar .byte ((lo >>> ((8 : Int32) &&& 31)).toInt8.toInt32))), (.int (nar .byte ((lo >>> ((16 : Int32) &&& 31)).toInt8.toInt32))), (.int (nar .byte ((lo >>> ((24 : Int32) &&& 31)).toInt8.toInt32))), (.int (nar .byte (hi.toInt8.toInt32))), (.int (nar .byte ((hi >>> ((8 : Int32) &&& 31)).toInt8.toInt32))), (.int (nar .byte ((hi >>> ((16 : Int32) &&& 31)).toInt8.toInt32))), (.int (0 : Int32))] (.int (0 : Int32)) := Arv.set Ar13 q13 S13 N13 Hh13 G13 (fits_nar_byte _) W13 6 rfl (Nat.le_of_ble_eq_true rfl)
  have NF := Fr.snoc X13 NF g_b6
  refine Gl.go ?_ st13
  show Gl _ _ _ _ (T13.setTop (mkF m 55 #[.val (.int lo), .val (.int hi), .val (.int st0), .val (.int sp), .unset, .unset, .unset, .unset, .unset] [(.ref b6)]))
  refine Gl.go ?_ (fun t k => XS.dup X13.here hx rfl (hb hby at_55) rfl rfl k)
  show Gl _ _ _ _ (T13.setTop (mkF m 56 #[.val (.int lo), .val (.int hi), .val (.int st0), .val (.int sp), .unset, .unset, .unset, .unset, .unset] [(.ref b6), (.ref b6)]))
  refine Gl.go ?_ (fun t k => XS.bipush X13.here hx rfl (hb hby at_56) k)
  show Gl _ _ _ _ (T13.setTop (mkF m 58 #[.val (.int lo), .val (.int hi), .val (.int st0), .val (.int sp), .unset, .unset, .unset, .unset, .unset] [(.int (7 : Int32)), (.ref b6), (.ref b6)]))
  refine Gl.go ?_ (fun t k => XS.iloadN X13.here hx rfl (hb hby at_58) rfl k)
  show Gl _ _ _ _ (T13.setTop (mkF m 59 #[.val (.int lo), .val (.int hi), .val (.int st0), .val (.int sp), .unset, .unset, .unset, .unset, .unset] [(.int hi), (.int (7 : Int32)), (.ref b6), (.ref b6)]))
  refine Gl.go ?_ (fun t k => XS.bipush X13.here hx rfl (hb hby at_59) k)
  show Gl _ _ _ _ (T13.setTop (mkF m 61 #[.val (.int lo), .val (.int hi), .val (.int st0), .val (.int sp), .unset, .unset, .unset, .unset, .unset] [(.int (24 : Int32)), (.int hi), (.int (7 : Int32)), (.ref b6), (.ref b6)]))
  refine Gl.go ?_ (fun t k => XS.ishr X13.here hx rfl (hb hby at_61) rfl k)
  show Gl _ _ _ _ (T13.setTop (mkF m 62 #[.val (.int lo), .val (.int hi), .val (.int st0), .val (.int sp), .unset, .unset, .unset, .unset, .unset] [(.int (hi >>> ((24 : Int32) &&& 31))), (.int (7 : Int32)), (.ref b6), (.ref b6)]))
  refine Gl.go ?_ (fun t k => XS.i2b X13.here hx rfl (hb hby at_62) rfl k)
  show Gl _ _ _ _ (T13.setTop (mkF m 63 #[.val (.int lo), .val (.int hi), .val (.int st0), .val (.int sp), .unset, .unset, .unset, .unset, .unset] [(.int ((hi >>> ((24 : Int32) &&& 31)).toInt8.toInt32)), (.int (7 : Int32)), (.ref b6), (.ref b6)]))
  obtain ⟨cl14, Ar14, q14, S14, N14, Hh14, G14⟩ := V_b6
  obtain ⟨T14, h14, X14, e14, W14, st14⟩ := stB X13 hx hZ e13 Ar14 (j := (7 : Int32)) (inb_of S14 ⟨by decide, by decide⟩) (g := (mkF m 63 #[.val (.int lo), .val (.int hi), .val (.int st0), .val (.int sp), .unset, .unset, .unset, .unset, .unset] [(.int ((hi >>> ((24 : Int32) &&& 31)).toInt8.toInt32)), (.int (7 : Int32)), (.ref b6), (.ref b6)])) rfl rfl (hb hby at_63)
  have Z0 := Nat.le_trans Z0 (Keep.of_wr W14).1
  have V_b6 : Arv Z h14 b6 k6 .byte (8 : Int32) [(.int (nar .byte (lo.toInt8.toInt32))), (.int (nar .byte ((lo >>> ((8 : Int32) &&& 31)).toInt8.toInt32))), (.int (nar .byte ((lo >>> ((16 : Int32) &&& 31)).toInt8.toInt32))), (.int (nar .byte ((lo >>> ((24 : Int32) &&& 31)).toInt8.toInt32))), (.int (nar .byte (hi.toInt8.toInt32))), (.int (nar .byte ((hi >>> ((8 : Int32) &&& 31)).toInt8.toInt32))), (.int (nar .byte ((hi >>> ((16 : Int32) &&& 31)).toInt8.toInt32))), (.int (nar .byte ((hi >>> ((24 : Int32) &&& 31)).toInt8.toInt32)))] (.int (0 : Int32)) := Arv.set Ar14 q14 S14 N14 Hh14 G14 (fits_nar_byte _) W14 7 rfl (Nat.le_of_ble_eq_true rfl)
  have NF := Fr.snoc X14 NF g_b6
  refine Gl.go ?_ st14
  show Gl _ _ _ _ (T14.setTop (mkF m 64 #[.val (.int lo), .val (.int hi), .val (.int st0), .val (.int sp), .unset, .unset, .unset, .unset, .unset] [(.ref b6)]))
  have hB : BA Z h14 b6 .byte (8 : Int32) (own_bs lo hi) := BA.of [(nar .byte (lo.toInt8.toInt32)), (nar .byte ((lo >>> ((8 : Int32) &&& 31)).toInt8.toInt32)), (nar .byte ((lo >>> ((16 : Int32) &&& 31)).toInt8.toInt32)), (nar .byte ((lo >>> ((24 : Int32) &&& 31)).toInt8.toInt32)), (nar .byte (hi.toInt8.toInt32)), (nar .byte ((hi >>> ((8 : Int32) &&& 31)).toInt8.toInt32)), (nar .byte ((hi >>> ((16 : Int32) &&& 31)).toInt8.toInt32)), (nar .byte ((hi >>> ((24 : Int32) &&& 31)).toInt8.toInt32))] V_b6 (Nat.le_of_eq rfl)
  refine Gl.go ?_ (fun t k => XS.astore X14.here hx rfl (hb hby at_64) rfl rfl (l' := #[.val (.int lo), .val (.int hi), .val (.int st0), .val (.int sp), .val (.ref b6), .unset, .unset, .unset, .unset]) rfl k)
  show Gl _ _ _ _ (T14.setTop (mkF m 66 #[.val (.int lo), .val (.int hi), .val (.int st0), .val (.int sp), .val (.ref b6), .unset, .unset, .unset, .unset] []))
  refine Gl.go ?_ (fun t k => XS.iloadN X14.here hx rfl (hb hby at_66) rfl k)
  show Gl _ _ _ _ (T14.setTop (mkF m 67 #[.val (.int lo), .val (.int hi), .val (.int st0), .val (.int sp), .val (.ref b6), .unset, .unset, .unset, .unset] [(.int st0)]))
  refine Gl.go ?_ (fun t k => XS.bipush X14.here hx rfl (hb hby at_67) k)
  show Gl _ _ _ _ (T14.setTop (mkF m 69 #[.val (.int lo), .val (.int hi), .val (.int st0), .val (.int sp), .val (.ref b6), .unset, .unset, .unset, .unset] [(.int (15 : Int32)), (.int st0)]))
  refine Gl.go ?_ (fun t k => XS.iand X14.here hx rfl (hb hby at_69) rfl k)
  show Gl _ _ _ _ (T14.setTop (mkF m 70 #[.val (.int lo), .val (.int hi), .val (.int st0), .val (.int sp), .val (.ref b6), .unset, .unset, .unset, .unset] [(.int (st0 &&& (15 : Int32)))]))
  refine Gl.go ?_ (fun t k => XS.bipush X14.here hx rfl (hb hby at_70) k)
  show Gl _ _ _ _ (T14.setTop (mkF m 72 #[.val (.int lo), .val (.int hi), .val (.int st0), .val (.int sp), .val (.ref b6), .unset, .unset, .unset, .unset] [(.int (9 : Int32)), (.int (st0 &&& (15 : Int32)))]))
  refine Gl.go ?_ (fun t k => iremM X14 hx rfl (hb hby at_72) rfl (by decide) k)
  show Gl _ _ _ _ (T14.setTop (mkF m 73 #[.val (.int lo), .val (.int hi), .val (.int st0), .val (.int sp), .val (.ref b6), .unset, .unset, .unset, .unset] [(.int ((st0 &&& (15 : Int32)) % (9 : Int32)))]))
  rw [hfr]
  refine Gl.go ?_ (fun t k => XS.istore X14.here hx rfl (hb hby at_73) rfl (l' := #[.val (.int lo), .val (.int hi), .val (.int st0), .val (.int sp), .val (.ref b6), .val (.int fr), .unset, .unset, .unset]) rfl k)
  show Gl _ _ _ _ (T14.setTop (mkF m 75 #[.val (.int lo), .val (.int hi), .val (.int st0), .val (.int sp), .val (.ref b6), .val (.int fr), .unset, .unset, .unset] []))
  refine Gl.go ?_ (fun t k => XS.iload X14.here hx rfl (hb hby at_75) rfl k)
  show Gl _ _ _ _ (T14.setTop (mkF m 77 #[.val (.int lo), .val (.int hi), .val (.int st0), .val (.int sp), .val (.ref b6), .val (.int fr), .unset, .unset, .unset] [(.int fr)]))
  refine Gl.go ?_ (fun t k => XS.iloadN X14.here hx rfl (hb hby at_77) rfl k)
  show Gl _ _ _ _ (T14.setTop (mkF m 78 #[.val (.int lo), .val (.int hi), .val (.int st0), .val (.int sp), .val (.ref b6), .val (.int fr), .unset, .unset, .unset] [(.int sp), (.int fr)]))
  refine Gl.go ?_ (fun t k => XS.bipush X14.here hx rfl (hb hby at_78) k)
  show Gl _ _ _ _ (T14.setTop (mkF m 80 #[.val (.int lo), .val (.int hi), .val (.int st0), .val (.int sp), .val (.ref b6), .val (.int fr), .unset, .unset, .unset] [(.int (15 : Int32)), (.int sp), (.int fr)]))
  refine Gl.go ?_ (fun t k => XS.iand X14.here hx rfl (hb hby at_80) rfl k)
  show Gl _ _ _ _ (T14.setTop (mkF m 81 #[.val (.int lo), .val (.int hi), .val (.int st0), .val (.int sp), .val (.ref b6), .val (.int fr), .unset, .unset, .unset] [(.int (sp &&& (15 : Int32))), (.int fr)]))
  refine Gl.go ?_ (fun t k => XS.bipush X14.here hx rfl (hb hby at_81) k)
  show Gl _ _ _ _ (T14.setTop (mkF m 83 #[.val (.int lo), .val (.int hi), .val (.int st0), .val (.int sp), .val (.ref b6), .val (.int fr), .unset, .unset, .unset] [(.int (9 : Int32)), (.int (sp &&& (15 : Int32))), (.int fr)]))
  refine Gl.go ?_ (fun t k => XS.iload X14.here hx rfl (hb hby at_83) rfl k)
  show Gl _ _ _ _ (T14.setTop (mkF m 85 #[.val (.int lo), .val (.int hi), .val (.int st0), .val (.int sp), .val (.ref b6), .val (.int fr), .unset, .unset, .unset] [(.int fr), (.int (9 : Int32)), (.int (sp &&& (15 : Int32))), (.int fr)]))
  refine Gl.go ?_ (fun t k => XS.isub X14.here hx rfl (hb hby at_85) rfl k)
  show Gl _ _ _ _ (T14.setTop (mkF m 86 #[.val (.int lo), .val (.int hi), .val (.int st0), .val (.int sp), .val (.ref b6), .val (.int fr), .unset, .unset, .unset] [(.int ((9 : Int32) - fr)), (.int (sp &&& (15 : Int32))), (.int fr)]))
  refine Gl.go ?_ (fun t k => iremM X14 hx rfl (hb hby at_86) rfl hnz k)
  show Gl _ _ _ _ (T14.setTop (mkF m 87 #[.val (.int lo), .val (.int hi), .val (.int st0), .val (.int sp), .val (.ref b6), .val (.int fr), .unset, .unset, .unset] [(.int ((sp &&& (15 : Int32)) % ((9 : Int32) - fr))), (.int fr)]))
  refine Gl.go ?_ (fun t k => XS.iadd X14.here hx rfl (hb hby at_87) rfl k)
  show Gl _ _ _ _ (T14.setTop (mkF m 88 #[.val (.int lo), .val (.int hi), .val (.int st0), .val (.int sp), .val (.ref b6), .val (.int fr), .unset, .unset, .unset] [(.int (fr + ((sp &&& (15 : Int32)) % ((9 : Int32) - fr))))]))
  rw [hto]
  refine Gl.go ?_ (fun t k => XS.istore X14.here hx rfl (hb hby at_88) rfl (l' := #[.val (.int lo), .val (.int hi), .val (.int st0), .val (.int sp), .val (.ref b6), .val (.int fr), .val (.int to), .unset, .unset]) rfl k)
  show Gl _ _ _ _ (T14.setTop (mkF m 90 #[.val (.int lo), .val (.int hi), .val (.int st0), .val (.int sp), .val (.ref b6), .val (.int fr), .val (.int to), .unset, .unset] []))
  refine Gl.go ?_ (fun t k => XS.aload X14.here hx rfl (hb hby at_90) rfl rfl k)
  show Gl _ _ _ _ (T14.setTop (mkF m 92 #[.val (.int lo), .val (.int hi), .val (.int st0), .val (.int sp), .val (.ref b6), .val (.int fr), .val (.int to), .unset, .unset] [(.ref b6)]))
  refine Gl.go ?_ (fun t k => XS.iconst X14.here hx rfl (hb hby at_92) k)
  show Gl _ _ _ _ (T14.setTop (mkF m 93 #[.val (.int lo), .val (.int hi), .val (.int st0), .val (.int sp), .val (.ref b6), .val (.int fr), .val (.int to), .unset, .unset] [(.int (0 : Int32)), (.ref b6)]))
  refine Gl.go ?_ (fun t k => XS.iload X14.here hx rfl (hb hby at_93) rfl k)
  show Gl _ _ _ _ (T14.setTop (mkF m 95 #[.val (.int lo), .val (.int hi), .val (.int st0), .val (.int sp), .val (.ref b6), .val (.int fr), .val (.int to), .unset, .unset] [(.int fr), (.int (0 : Int32)), (.ref b6)]))
  refine Gl.go ?_ (fun t k => XS.iload X14.here hx rfl (hb hby at_95) rfl k)
  show Gl _ _ _ _ (T14.setTop (mkF m 97 #[.val (.int lo), .val (.int hi), .val (.int st0), .val (.int sp), .val (.ref b6), .val (.int fr), .val (.int to), .unset, .unset] [(.int to), (.int fr), (.int (0 : Int32)), (.ref b6)]))
  obtain ⟨_, _, ⟨T15, L15, k15, n15⟩, -, X15, ⟨Lc15, hQ15, l15, y15, z15⟩, st15⟩ := Jvm.LawKit.callS X14 hx (y := (⟨"com/example/clotwire/clotwire/link/ChecksumOfPinLaw", "term", "([BIII)I"⟩ : MethodName)) hown (mvT hZ (hw _ (List.mem_of_getElem? (i := 1) rfl))) (mvT hZ (hw _ (List.mem_of_getElem? (i := 2) rfl))) (mvT hZ (hw _ (List.mem_of_getElem? (i := 3) rfl))) (mvT hZ (hw _ (List.mem_of_getElem? (i := 4) rfl))) (by decide) (backOf (W := 0) (rm1 l Z a0 hw [] b6 (0 : Int32) fr to (own_bs lo hi) h14 hB (by decide) (by decide)) hZ (hw _ (List.mem_of_getElem? (i := 4) rfl)) (hw _ (List.mem_of_getElem? (i := 3) rfl)) (by decide) (by decide)) (g := (mkF m 97 #[.val (.int lo), .val (.int hi), .val (.int st0), .val (.int sp), .val (.ref b6), .val (.int fr), .val (.int to), .unset, .unset] [(.int to), (.int fr), (.int (0 : Int32)), (.ref b6)])) rfl (by rw [hml]; rfl) (argsL := [(.ref b6), (.int (0 : Int32)), (.int fr), (.int to)]) (rest := []) (lenOf pd_2 rfl) rfl (by show 2 * 0 + _ ≤ _; exact Nat.le_of_eq rfl) (hb hby at_97) (fun _ _ => ⟨rfl, e14, (by decide : 1 + 0 ≤ _), (by decide : 8 + 0 ≤ _)⟩)
  dsimp only [Pt.U, Pt.locs, Pt.cells, Pt.slots] at X15 l15 y15 z15 st15 hQ15
  subst l15 y15 z15
  obtain ⟨rfl, rfl, e15⟩ := hQ15
  have NF := Fr.app NF (Fr.nil n0)
  refine Gl.go ?_ st15
  show Gl _ _ _ _ (T15.setTop (mkF m 100 #[.val (.int lo), .val (.int hi), .val (.int st0), .val (.int sp), .val (.ref b6), .val (.int fr), .val (.int to), .unset, .unset] [(.int (f_term (0 : Int32) fr to (own_bs lo hi)))]))
  refine Gl.go ?_ (fun t k => XS.aload X15.here hx rfl (hb hby at_100) rfl rfl k)
  show Gl _ _ _ _ (T15.setTop (mkF m 102 #[.val (.int lo), .val (.int hi), .val (.int st0), .val (.int sp), .val (.ref b6), .val (.int fr), .val (.int to), .unset, .unset] [(.ref b6), (.int (f_term (0 : Int32) fr to (own_bs lo hi)))]))
  refine Gl.go ?_ (fun t k => XS.iconst X15.here hx rfl (hb hby at_102) k)
  show Gl _ _ _ _ (T15.setTop (mkF m 103 #[.val (.int lo), .val (.int hi), .val (.int st0), .val (.int sp), .val (.ref b6), .val (.int fr), .val (.int to), .unset, .unset] [(.int (1 : Int32)), (.ref b6), (.int (f_term (0 : Int32) fr to (own_bs lo hi)))]))
  refine Gl.go ?_ (fun t k => XS.iload X15.here hx rfl (hb hby at_103) rfl k)
  show Gl _ _ _ _ (T15.setTop (mkF m 105 #[.val (.int lo), .val (.int hi), .val (.int st0), .val (.int sp), .val (.ref b6), .val (.int fr), .val (.int to), .unset, .unset] [(.int fr), (.int (1 : Int32)), (.ref b6), (.int (f_term (0 : Int32) fr to (own_bs lo hi)))]))
  refine Gl.go ?_ (fun t k => XS.iload X15.here hx rfl (hb hby at_105) rfl k)
  show Gl _ _ _ _ (T15.setTop (mkF m 107 #[.val (.int lo), .val (.int hi), .val (.int st0), .val (.int sp), .val (.ref b6), .val (.int fr), .val (.int to), .unset, .unset] [(.int to), (.int fr), (.int (1 : Int32)), (.ref b6), (.int (f_term (0 : Int32) fr to (own_bs lo hi)))]))
  obtain ⟨_, _, ⟨T16, L16, k16, n16⟩, -, X16, ⟨Lc16, hQ16, l16, y16, z16⟩, st16⟩ := Jvm.LawKit.callS X15 hx (y := (⟨"com/example/clotwire/clotwire/link/ChecksumOfPinLaw", "term", "([BIII)I"⟩ : MethodName)) hown (mvT hZ (hw _ (List.mem_of_getElem? (i := 1) rfl))) (mvT hZ (hw _ (List.mem_of_getElem? (i := 2) rfl))) (mvT hZ (hw _ (List.mem_of_getElem? (i := 3) rfl))) (mvT hZ (hw _ (List.mem_of_getElem? (i := 4) rfl))) (by decide) (backOf (W := 1) (rm1 l Z a0 hw [] b6 (1 : Int32) fr to (own_bs lo hi) h14 hB (by decide) (by decide)) hZ (hw _ (List.mem_of_getElem? (i := 4) rfl)) (hw _ (List.mem_of_getElem? (i := 3) rfl)) (by decide) (by decide)) (g := (mkF m 107 #[.val (.int lo), .val (.int hi), .val (.int st0), .val (.int sp), .val (.ref b6), .val (.int fr), .val (.int to), .unset, .unset] [(.int to), (.int fr), (.int (1 : Int32)), (.ref b6), (.int (f_term (0 : Int32) fr to (own_bs lo hi)))])) rfl (by rw [hml]; rfl) (argsL := [(.ref b6), (.int (1 : Int32)), (.int fr), (.int to)]) (rest := [(.int (f_term (0 : Int32) fr to (own_bs lo hi)))]) (lenOf pd_2 rfl) rfl (by show 2 * 0 + _ ≤ _; exact Nat.le_of_eq rfl) (hb hby at_107) (fun _ _ => ⟨rfl, e15, (by decide : 1 + 0 ≤ _), (by decide : 8 + 0 ≤ _)⟩)
  dsimp only [Pt.U, Pt.locs, Pt.cells, Pt.slots] at X16 l16 y16 z16 st16 hQ16
  subst l16 y16 z16
  obtain ⟨rfl, rfl, e16⟩ := hQ16
  have NF := Fr.app NF (Fr.nil n0)
  refine Gl.go ?_ st16
  show Gl _ _ _ _ (T16.setTop (mkF m 110 #[.val (.int lo), .val (.int hi), .val (.int st0), .val (.int sp), .val (.ref b6), .val (.int fr), .val (.int to), .unset, .unset] [(.int (f_term (1 : Int32) fr to (own_bs lo hi))), (.int (f_term (0 : Int32) fr to (own_bs lo hi)))]))
  refine Gl.go ?_ (fun t k => XS.iadd X16.here hx rfl (hb hby at_110) rfl k)
  show Gl _ _ _ _ (T16.setTop (mkF m 111 #[.val (.int lo), .val (.int hi), .val (.int st0), .val (.int sp), .val (.ref b6), .val (.int fr), .val (.int to), .unset, .unset] [(.int ((f_term (0 : Int32) fr to (own_bs lo hi)) + (f_term (1 : Int32) fr to (own_bs lo hi))))]))
  refine Gl.go ?_ (fun t k => XS.aload X16.here hx rfl (hb hby at_111) rfl rfl k)
  show Gl _ _ _ _ (T16.setTop (mkF m 113 #[.val (.int lo), .val (.int hi), .val (.int st0), .val (.int sp), .val (.ref b6), .val (.int fr), .val (.int to), .unset, .unset] [(.ref b6), (.int ((f_term (0 : Int32) fr to (own_bs lo hi)) + (f_term (1 : Int32) fr to (own_bs lo hi))))]))
  refine Gl.go ?_ (fun t k => XS.iconst X16.here hx rfl (hb hby at_113) k)
  show Gl _ _ _ _ (T16.setTop (mkF m 114 #[.val (.int lo), .val (.int hi), .val (.int st0), .val (.int sp), .val (.ref b6), .val (.int fr), .val (.int to), .unset, .unset] [(.int (2 : Int32)), (.ref b6), (.int ((f_term (0 : Int32) fr to (own_bs lo hi)) + (f_term (1 : Int32) fr to (own_bs lo hi))))]))
  refine Gl.go ?_ (fun t k => XS.iload X16.here hx rfl (hb hby at_114) rfl k)
  show Gl _ _ _ _ (T16.setTop (mkF m 116 #[.val (.int lo), .val (.int hi), .val (.int st0), .val (.int sp), .val (.ref b6), .val (.int fr), .val (.int to), .unset, .unset] [(.int fr), (.int (2 : Int32)), (.ref b6), (.int ((f_term (0 : Int32) fr to (own_bs lo hi)) + (f_term (1 : Int32) fr to (own_bs lo hi))))]))
  refine Gl.go ?_ (fun t k => XS.iload X16.here hx rfl (hb hby at_116) rfl k)
  show Gl _ _ _ _ (T16.setTop (mkF m 118 #[.val (.int lo), .val (.int hi), .val (.int st0), .val (.int sp), .val (.ref b6), .val (.int fr), .val (.int to), .unset, .unset] [(.int to), (.int fr), (.int (2 : Int32)), (.ref b6), (.int ((f_term (0 : Int32) fr to (own_bs lo hi)) + (f_term (1 : Int32) fr to (own_bs lo hi))))]))
  obtain ⟨_, _, ⟨T17, L17, k17, n17⟩, -, X17, ⟨Lc17, hQ17, l17, y17, z17⟩, st17⟩ := Jvm.LawKit.callS X16 hx (y := (⟨"com/example/clotwire/clotwire/link/ChecksumOfPinLaw", "term", "([BIII)I"⟩ : MethodName)) hown (mvT hZ (hw _ (List.mem_of_getElem? (i := 1) rfl))) (mvT hZ (hw _ (List.mem_of_getElem? (i := 2) rfl))) (mvT hZ (hw _ (List.mem_of_getElem? (i := 3) rfl))) (mvT hZ (hw _ (List.mem_of_getElem? (i := 4) rfl))) (by decide) (backOf (W := 1) (rm1 l Z a0 hw [] b6 (2 : Int32) fr to (own_bs lo hi) h14 hB (by decide) (by decide)) hZ (hw _ (List.mem_of_getElem? (i := 4) rfl)) (hw _ (List.mem_of_getElem? (i := 3) rfl)) (by decide) (by decide)) (g := (mkF m 118 #[.val (.int lo), .val (.int hi), .val (.int st0), .val (.int sp), .val (.ref b6), .val (.int fr), .val (.int to), .unset, .unset] [(.int to), (.int fr), (.int (2 : Int32)), (.ref b6), (.int ((f_term (0 : Int32) fr to (own_bs lo hi)) + (f_term (1 : Int32) fr to (own_bs lo hi))))])) rfl (by rw [hml]; rfl) (argsL := [(.ref b6), (.int (2 : Int32)), (.int fr), (.int to)]) (rest := [(.int ((f_term (0 : Int32) fr to (own_bs lo hi)) + (f_term (1 : Int32) fr to (own_bs lo hi))))]) (lenOf pd_2 rfl) rfl (by show 2 * 0 + _ ≤ _; exact Nat.le_of_eq rfl) (hb hby at_118) (fun _ _ => ⟨rfl, e16, (by decide : 1 + 0 ≤ _), (by decide : 8 + 0 ≤ _)⟩)
  dsimp only [Pt.U, Pt.locs, Pt.cells, Pt.slots] at X17 l17 y17 z17 st17 hQ17
  subst l17 y17 z17
  obtain ⟨rfl, rfl, e17⟩ := hQ17
  have NF := Fr.app NF (Fr.nil n0)
  refine Gl.go ?_ st17
  show Gl _ _ _ _ (T17.setTop (mkF m 121 #[.val (.int lo), .val (.int hi), .val (.int st0), .val (.int sp), .val (.ref b6), .val (.int fr), .val (.int to), .unset, .unset] [(.int (f_term (2 : Int32) fr to (own_bs lo hi))), (.int ((f_term (0 : Int32) fr to (own_bs lo hi)) + (f_term (1 : Int32) fr to (own_bs lo hi))))]))
  refine Gl.go ?_ (fun t k => XS.iadd X17.here hx rfl (hb hby at_121) rfl k)
  show Gl _ _ _ _ (T17.setTop (mkF m 122 #[.val (.int lo), .val (.int hi), .val (.int st0), .val (.int sp), .val (.ref b6), .val (.int fr), .val (.int to), .unset, .unset] [(.int (((f_term (0 : Int32) fr to (own_bs lo hi)) + (f_term (1 : Int32) fr to (own_bs lo hi))) + (f_term (2 : Int32) fr to (own_bs lo hi))))]))
  refine Gl.go ?_ (fun t k => XS.aload X17.here hx rfl (hb hby at_122) rfl rfl k)
  show Gl _ _ _ _ (T17.setTop (mkF m 124 #[.val (.int lo), .val (.int hi), .val (.int st0), .val (.int sp), .val (.ref b6), .val (.int fr), .val (.int to), .unset, .unset] [(.ref b6), (.int (((f_term (0 : Int32) fr to (own_bs lo hi)) + (f_term (1 : Int32) fr to (own_bs lo hi))) + (f_term (2 : Int32) fr to (own_bs lo hi))))]))
  refine Gl.go ?_ (fun t k => XS.iconst X17.here hx rfl (hb hby at_124) k)
  show Gl _ _ _ _ (T17.setTop (mkF m 125 #[.val (.int lo), .val (.int hi), .val (.int st0), .val (.int sp), .val (.ref b6), .val (.int fr), .val (.int to), .unset, .unset] [(.int (3 : Int32)), (.ref b6), (.int (((f_term (0 : Int32) fr to (own_bs lo hi)) + (f_term (1 : Int32) fr to (own_bs lo hi))) + (f_term (2 : Int32) fr to (own_bs lo hi))))]))
  refine Gl.go ?_ (fun t k => XS.iload X17.here hx rfl (hb hby at_125) rfl k)
  show Gl _ _ _ _ (T17.setTop (mkF m 127 #[.val (.int lo), .val (.int hi), .val (.int st0), .val (.int sp), .val (.ref b6), .val (.int fr), .val (.int to), .unset, .unset] [(.int fr), (.int (3 : Int32)), (.ref b6), (.int (((f_term (0 : Int32) fr to (own_bs lo hi)) + (f_term (1 : Int32) fr to (own_bs lo hi))) + (f_term (2 : Int32) fr to (own_bs lo hi))))]))
  refine Gl.go ?_ (fun t k => XS.iload X17.here hx rfl (hb hby at_127) rfl k)
  show Gl _ _ _ _ (T17.setTop (mkF m 129 #[.val (.int lo), .val (.int hi), .val (.int st0), .val (.int sp), .val (.ref b6), .val (.int fr), .val (.int to), .unset, .unset] [(.int to), (.int fr), (.int (3 : Int32)), (.ref b6), (.int (((f_term (0 : Int32) fr to (own_bs lo hi)) + (f_term (1 : Int32) fr to (own_bs lo hi))) + (f_term (2 : Int32) fr to (own_bs lo hi))))]))
  obtain ⟨_, _, ⟨T18, L18, k18, n18⟩, -, X18, ⟨Lc18, hQ18, l18, y18, z18⟩, st18⟩ := Jvm.LawKit.callS X17 hx (y := (⟨"com/example/clotwire/clotwire/link/ChecksumOfPinLaw", "term", "([BIII)I"⟩ : MethodName)) hown (mvT hZ (hw _ (List.mem_of_getElem? (i := 1) rfl))) (mvT hZ (hw _ (List.mem_of_getElem? (i := 2) rfl))) (mvT hZ (hw _ (List.mem_of_getElem? (i := 3) rfl))) (mvT hZ (hw _ (List.mem_of_getElem? (i := 4) rfl))) (by decide) (backOf (W := 1) (rm1 l Z a0 hw [] b6 (3 : Int32) fr to (own_bs lo hi) h14 hB (by decide) (by decide)) hZ (hw _ (List.mem_of_getElem? (i := 4) rfl)) (hw _ (List.mem_of_getElem? (i := 3) rfl)) (by decide) (by decide)) (g := (mkF m 129 #[.val (.int lo), .val (.int hi), .val (.int st0), .val (.int sp), .val (.ref b6), .val (.int fr), .val (.int to), .unset, .unset] [(.int to), (.int fr), (.int (3 : Int32)), (.ref b6), (.int (((f_term (0 : Int32) fr to (own_bs lo hi)) + (f_term (1 : Int32) fr to (own_bs lo hi))) + (f_term (2 : Int32) fr to (own_bs lo hi))))])) rfl (by rw [hml]; rfl) (argsL := [(.ref b6), (.int (3 : Int32)), (.int fr), (.int to)]) (rest := [(.int (((f_term (0 : Int32) fr to (own_bs lo hi)) + (f_term (1 : Int32) fr to (own_bs lo hi))) + (f_term (2 : Int32) fr to (own_bs lo hi))))]) (lenOf pd_2 rfl) rfl (by show 2 * 0 + _ ≤ _; exact Nat.le_of_eq rfl) (hb hby at_129) (fun _ _ => ⟨rfl, e17, (by decide : 1 + 0 ≤ _), (by decide : 8 + 0 ≤ _)⟩)
  dsimp only [Pt.U, Pt.locs, Pt.cells, Pt.slots] at X18 l18 y18 z18 st18 hQ18
  subst l18 y18 z18
  obtain ⟨rfl, rfl, e18⟩ := hQ18
  have NF := Fr.app NF (Fr.nil n0)
  refine Gl.go ?_ st18
  show Gl _ _ _ _ (T18.setTop (mkF m 132 #[.val (.int lo), .val (.int hi), .val (.int st0), .val (.int sp), .val (.ref b6), .val (.int fr), .val (.int to), .unset, .unset] [(.int (f_term (3 : Int32) fr to (own_bs lo hi))), (.int (((f_term (0 : Int32) fr to (own_bs lo hi)) + (f_term (1 : Int32) fr to (own_bs lo hi))) + (f_term (2 : Int32) fr to (own_bs lo hi))))]))
  refine Gl.go ?_ (fun t k => XS.iadd X18.here hx rfl (hb hby at_132) rfl k)
  show Gl _ _ _ _ (T18.setTop (mkF m 133 #[.val (.int lo), .val (.int hi), .val (.int st0), .val (.int sp), .val (.ref b6), .val (.int fr), .val (.int to), .unset, .unset] [(.int ((((f_term (0 : Int32) fr to (own_bs lo hi)) + (f_term (1 : Int32) fr to (own_bs lo hi))) + (f_term (2 : Int32) fr to (own_bs lo hi))) + (f_term (3 : Int32) fr to (own_bs lo hi))))]))
  refine Gl.go ?_ (fun t k => XS.aload X18.here hx rfl (hb hby at_133) rfl rfl k)
  show Gl _ _ _ _ (T18.setTop (mkF m 135 #[.val (.int lo), .val (.int hi), .val (.int st0), .val (.int sp), .val (.ref b6), .val (.int fr), .val (.int to), .unset, .unset] [(.ref b6), (.int ((((f_term (0 : Int32) fr to (own_bs lo hi)) + (f_term (1 : Int32) fr to (own_bs lo hi))) + (f_term (2 : Int32) fr to (own_bs lo hi))) + (f_term (3 : Int32) fr to (own_bs lo hi))))]))
  refine Gl.go ?_ (fun t k => XS.iconst X18.here hx rfl (hb hby at_135) k)
  show Gl _ _ _ _ (T18.setTop (mkF m 136 #[.val (.int lo), .val (.int hi), .val (.int st0), .val (.int sp), .val (.ref b6), .val (.int fr), .val (.int to), .unset, .unset] [(.int (4 : Int32)), (.ref b6), (.int ((((f_term (0 : Int32) fr to (own_bs lo hi)) + (f_term (1 : Int32) fr to (own_bs lo hi))) + (f_term (2 : Int32) fr to (own_bs lo hi))) + (f_term (3 : Int32) fr to (own_bs lo hi))))]))
  refine Gl.go ?_ (fun t k => XS.iload X18.here hx rfl (hb hby at_136) rfl k)
  show Gl _ _ _ _ (T18.setTop (mkF m 138 #[.val (.int lo), .val (.int hi), .val (.int st0), .val (.int sp), .val (.ref b6), .val (.int fr), .val (.int to), .unset, .unset] [(.int fr), (.int (4 : Int32)), (.ref b6), (.int ((((f_term (0 : Int32) fr to (own_bs lo hi)) + (f_term (1 : Int32) fr to (own_bs lo hi))) + (f_term (2 : Int32) fr to (own_bs lo hi))) + (f_term (3 : Int32) fr to (own_bs lo hi))))]))
  refine Gl.go ?_ (fun t k => XS.iload X18.here hx rfl (hb hby at_138) rfl k)
  show Gl _ _ _ _ (T18.setTop (mkF m 140 #[.val (.int lo), .val (.int hi), .val (.int st0), .val (.int sp), .val (.ref b6), .val (.int fr), .val (.int to), .unset, .unset] [(.int to), (.int fr), (.int (4 : Int32)), (.ref b6), (.int ((((f_term (0 : Int32) fr to (own_bs lo hi)) + (f_term (1 : Int32) fr to (own_bs lo hi))) + (f_term (2 : Int32) fr to (own_bs lo hi))) + (f_term (3 : Int32) fr to (own_bs lo hi))))]))
  obtain ⟨_, _, ⟨T19, L19, k19, n19⟩, -, X19, ⟨Lc19, hQ19, l19, y19, z19⟩, st19⟩ := Jvm.LawKit.callS X18 hx (y := (⟨"com/example/clotwire/clotwire/link/ChecksumOfPinLaw", "term", "([BIII)I"⟩ : MethodName)) hown (mvT hZ (hw _ (List.mem_of_getElem? (i := 1) rfl))) (mvT hZ (hw _ (List.mem_of_getElem? (i := 2) rfl))) (mvT hZ (hw _ (List.mem_of_getElem? (i := 3) rfl))) (mvT hZ (hw _ (List.mem_of_getElem? (i := 4) rfl))) (by decide) (backOf (W := 1) (rm1 l Z a0 hw [] b6 (4 : Int32) fr to (own_bs lo hi) h14 hB (by decide) (by decide)) hZ (hw _ (List.mem_of_getElem? (i := 4) rfl)) (hw _ (List.mem_of_getElem? (i := 3) rfl)) (by decide) (by decide)) (g := (mkF m 140 #[.val (.int lo), .val (.int hi), .val (.int st0), .val (.int sp), .val (.ref b6), .val (.int fr), .val (.int to), .unset, .unset] [(.int to), (.int fr), (.int (4 : Int32)), (.ref b6), (.int ((((f_term (0 : Int32) fr to (own_bs lo hi)) + (f_term (1 : Int32) fr to (own_bs lo hi))) + (f_term (2 : Int32) fr to (own_bs lo hi))) + (f_term (3 : Int32) fr to (own_bs lo hi))))])) rfl (by rw [hml]; rfl) (argsL := [(.ref b6), (.int (4 : Int32)), (.int fr), (.int to)]) (rest := [(.int ((((f_term (0 : Int32) fr to (own_bs lo hi)) + (f_term (1 : Int32) fr to (own_bs lo hi))) + (f_term (2 : Int32) fr to (own_bs lo hi))) + (f_term (3 : Int32) fr to (own_bs lo hi))))]) (lenOf pd_2 rfl) rfl (by show 2 * 0 + _ ≤ _; exact Nat.le_of_eq rfl) (hb hby at_140) (fun _ _ => ⟨rfl, e18, (by decide : 1 + 0 ≤ _), (by decide : 8 + 0 ≤ _)⟩)
  dsimp only [Pt.U, Pt.locs, Pt.cells, Pt.slots] at X19 l19 y19 z19 st19 hQ19
  subst l19 y19 z19
  obtain ⟨rfl, rfl, e19⟩ := hQ19
  have NF := Fr.app NF (Fr.nil n0)
  refine Gl.go ?_ st19
  show Gl _ _ _ _ (T19.setTop (mkF m 143 #[.val (.int lo), .val (.int hi), .val (.int st0), .val (.int sp), .val (.ref b6), .val (.int fr), .val (.int to), .unset, .unset] [(.int (f_term (4 : Int32) fr to (own_bs lo hi))), (.int ((((f_term (0 : Int32) fr to (own_bs lo hi)) + (f_term (1 : Int32) fr to (own_bs lo hi))) + (f_term (2 : Int32) fr to (own_bs lo hi))) + (f_term (3 : Int32) fr to (own_bs lo hi))))]))
  refine Gl.go ?_ (fun t k => XS.iadd X19.here hx rfl (hb hby at_143) rfl k)
  show Gl _ _ _ _ (T19.setTop (mkF m 144 #[.val (.int lo), .val (.int hi), .val (.int st0), .val (.int sp), .val (.ref b6), .val (.int fr), .val (.int to), .unset, .unset] [(.int (((((f_term (0 : Int32) fr to (own_bs lo hi)) + (f_term (1 : Int32) fr to (own_bs lo hi))) + (f_term (2 : Int32) fr to (own_bs lo hi))) + (f_term (3 : Int32) fr to (own_bs lo hi))) + (f_term (4 : Int32) fr to (own_bs lo hi))))]))
  refine Gl.go ?_ (fun t k => XS.aload X19.here hx rfl (hb hby at_144) rfl rfl k)
  show Gl _ _ _ _ (T19.setTop (mkF m 146 #[.val (.int lo), .val (.int hi), .val (.int st0), .val (.int sp), .val (.ref b6), .val (.int fr), .val (.int to), .unset, .unset] [(.ref b6), (.int (((((f_term (0 : Int32) fr to (own_bs lo hi)) + (f_term (1 : Int32) fr to (own_bs lo hi))) + (f_term (2 : Int32) fr to (own_bs lo hi))) + (f_term (3 : Int32) fr to (own_bs lo hi))) + (f_term (4 : Int32) fr to (own_bs lo hi))))]))
  refine Gl.go ?_ (fun t k => XS.iconst X19.here hx rfl (hb hby at_146) k)
  show Gl _ _ _ _ (T19.setTop (mkF m 147 #[.val (.int lo), .val (.int hi), .val (.int st0), .val (.int sp), .val (.ref b6), .val (.int fr), .val (.int to), .unset, .unset] [(.int (5 : Int32)), (.ref b6), (.int (((((f_term (0 : Int32) fr to (own_bs lo hi)) + (f_term (1 : Int32) fr to (own_bs lo hi))) + (f_term (2 : Int32) fr to (own_bs lo hi))) + (f_term (3 : Int32) fr to (own_bs lo hi))) + (f_term (4 : Int32) fr to (own_bs lo hi))))]))
  refine Gl.go ?_ (fun t k => XS.iload X19.here hx rfl (hb hby at_147) rfl k)
  show Gl _ _ _ _ (T19.setTop (mkF m 149 #[.val (.int lo), .val (.int hi), .val (.int st0), .val (.int sp), .val (.ref b6), .val (.int fr), .val (.int to), .unset, .unset] [(.int fr), (.int (5 : Int32)), (.ref b6), (.int (((((f_term (0 : Int32) fr to (own_bs lo hi)) + (f_term (1 : Int32) fr to (own_bs lo hi))) + (f_term (2 : Int32) fr to (own_bs lo hi))) + (f_term (3 : Int32) fr to (own_bs lo hi))) + (f_term (4 : Int32) fr to (own_bs lo hi))))]))
  refine Gl.go ?_ (fun t k => XS.iload X19.here hx rfl (hb hby at_149) rfl k)
  show Gl _ _ _ _ (T19.setTop (mkF m 151 #[.val (.int lo), .val (.int hi), .val (.int st0), .val (.int sp), .val (.ref b6), .val (.int fr), .val (.int to), .unset, .unset] [(.int to), (.int fr), (.int (5 : Int32)), (.ref b6), (.int (((((f_term (0 : Int32) fr to (own_bs lo hi)) + (f_term (1 : Int32) fr to (own_bs lo hi))) + (f_term (2 : Int32) fr to (own_bs lo hi))) + (f_term (3 : Int32) fr to (own_bs lo hi))) + (f_term (4 : Int32) fr to (own_bs lo hi))))]))
  obtain ⟨_, _, ⟨T20, L20, k20, n20⟩, -, X20, ⟨Lc20, hQ20, l20, y20, z20⟩, st20⟩ := Jvm.LawKit.callS X19 hx (y := (⟨"com/example/clotwire/clotwire/link/ChecksumOfPinLaw", "term", "([BIII)I"⟩ : MethodName)) hown (mvT hZ (hw _ (List.mem_of_getElem? (i := 1) rfl))) (mvT hZ (hw _ (List.mem_of_getElem? (i := 2) rfl))) (mvT hZ (hw _ (List.mem_of_getElem? (i := 3) rfl))) (mvT hZ (hw _ (List.mem_of_getElem? (i := 4) rfl))) (by decide) (backOf (W := 1) (rm1 l Z a0 hw [] b6 (5 : Int32) fr to (own_bs lo hi) h14 hB (by decide) (by decide)) hZ (hw _ (List.mem_of_getElem? (i := 4) rfl)) (hw _ (List.mem_of_getElem? (i := 3) rfl)) (by decide) (by decide)) (g := (mkF m 151 #[.val (.int lo), .val (.int hi), .val (.int st0), .val (.int sp), .val (.ref b6), .val (.int fr), .val (.int to), .unset, .unset] [(.int to), (.int fr), (.int (5 : Int32)), (.ref b6), (.int (((((f_term (0 : Int32) fr to (own_bs lo hi)) + (f_term (1 : Int32) fr to (own_bs lo hi))) + (f_term (2 : Int32) fr to (own_bs lo hi))) + (f_term (3 : Int32) fr to (own_bs lo hi))) + (f_term (4 : Int32) fr to (own_bs lo hi))))])) rfl (by rw [hml]; rfl) (argsL := [(.ref b6), (.int (5 : Int32)), (.int fr), (.int to)]) (rest := [(.int (((((f_term (0 : Int32) fr to (own_bs lo hi)) + (f_term (1 : Int32) fr to (own_bs lo hi))) + (f_term (2 : Int32) fr to (own_bs lo hi))) + (f_term (3 : Int32) fr to (own_bs lo hi))) + (f_term (4 : Int32) fr to (own_bs lo hi))))]) (lenOf pd_2 rfl) rfl (by show 2 * 0 + _ ≤ _; exact Nat.le_of_eq rfl) (hb hby at_151) (fun _ _ => ⟨rfl, e19, (by decide : 1 + 0 ≤ _), (by decide : 8 + 0 ≤ _)⟩)
  dsimp only [Pt.U, Pt.locs, Pt.cells, Pt.slots] at X20 l20 y20 z20 st20 hQ20
  subst l20 y20 z20
  obtain ⟨rfl, rfl, e20⟩ := hQ20
  have NF := Fr.app NF (Fr.nil n0)
  refine Gl.go ?_ st20
  show Gl _ _ _ _ (T20.setTop (mkF m 154 #[.val (.int lo), .val (.int hi), .val (.int st0), .val (.int sp), .val (.ref b6), .val (.int fr), .val (.int to), .unset, .unset] [(.int (f_term (5 : Int32) fr to (own_bs lo hi))), (.int (((((f_term (0 : Int32) fr to (own_bs lo hi)) + (f_term (1 : Int32) fr to (own_bs lo hi))) + (f_term (2 : Int32) fr to (own_bs lo hi))) + (f_term (3 : Int32) fr to (own_bs lo hi))) + (f_term (4 : Int32) fr to (own_bs lo hi))))]))
  refine Gl.go ?_ (fun t k => XS.iadd X20.here hx rfl (hb hby at_154) rfl k)
  show Gl _ _ _ _ (T20.setTop (mkF m 155 #[.val (.int lo), .val (.int hi), .val (.int st0), .val (.int sp), .val (.ref b6), .val (.int fr), .val (.int to), .unset, .unset] [(.int ((((((f_term (0 : Int32) fr to (own_bs lo hi)) + (f_term (1 : Int32) fr to (own_bs lo hi))) + (f_term (2 : Int32) fr to (own_bs lo hi))) + (f_term (3 : Int32) fr to (own_bs lo hi))) + (f_term (4 : Int32) fr to (own_bs lo hi))) + (f_term (5 : Int32) fr to (own_bs lo hi))))]))
  refine Gl.go ?_ (fun t k => XS.aload X20.here hx rfl (hb hby at_155) rfl rfl k)
  show Gl _ _ _ _ (T20.setTop (mkF m 157 #[.val (.int lo), .val (.int hi), .val (.int st0), .val (.int sp), .val (.ref b6), .val (.int fr), .val (.int to), .unset, .unset] [(.ref b6), (.int ((((((f_term (0 : Int32) fr to (own_bs lo hi)) + (f_term (1 : Int32) fr to (own_bs lo hi))) + (f_term (2 : Int32) fr to (own_bs lo hi))) + (f_term (3 : Int32) fr to (own_bs lo hi))) + (f_term (4 : Int32) fr to (own_bs lo hi))) + (f_term (5 : Int32) fr to (own_bs lo hi))))]))
  refine Gl.go ?_ (fun t k => XS.bipush X20.here hx rfl (hb hby at_157) k)
  show Gl _ _ _ _ (T20.setTop (mkF m 159 #[.val (.int lo), .val (.int hi), .val (.int st0), .val (.int sp), .val (.ref b6), .val (.int fr), .val (.int to), .unset, .unset] [(.int (6 : Int32)), (.ref b6), (.int ((((((f_term (0 : Int32) fr to (own_bs lo hi)) + (f_term (1 : Int32) fr to (own_bs lo hi))) + (f_term (2 : Int32) fr to (own_bs lo hi))) + (f_term (3 : Int32) fr to (own_bs lo hi))) + (f_term (4 : Int32) fr to (own_bs lo hi))) + (f_term (5 : Int32) fr to (own_bs lo hi))))]))
  refine Gl.go ?_ (fun t k => XS.iload X20.here hx rfl (hb hby at_159) rfl k)
  show Gl _ _ _ _ (T20.setTop (mkF m 161 #[.val (.int lo), .val (.int hi), .val (.int st0), .val (.int sp), .val (.ref b6), .val (.int fr), .val (.int to), .unset, .unset] [(.int fr), (.int (6 : Int32)), (.ref b6), (.int ((((((f_term (0 : Int32) fr to (own_bs lo hi)) + (f_term (1 : Int32) fr to (own_bs lo hi))) + (f_term (2 : Int32) fr to (own_bs lo hi))) + (f_term (3 : Int32) fr to (own_bs lo hi))) + (f_term (4 : Int32) fr to (own_bs lo hi))) + (f_term (5 : Int32) fr to (own_bs lo hi))))]))
  refine Gl.go ?_ (fun t k => XS.iload X20.here hx rfl (hb hby at_161) rfl k)
  show Gl _ _ _ _ (T20.setTop (mkF m 163 #[.val (.int lo), .val (.int hi), .val (.int st0), .val (.int sp), .val (.ref b6), .val (.int fr), .val (.int to), .unset, .unset] [(.int to), (.int fr), (.int (6 : Int32)), (.ref b6), (.int ((((((f_term (0 : Int32) fr to (own_bs lo hi)) + (f_term (1 : Int32) fr to (own_bs lo hi))) + (f_term (2 : Int32) fr to (own_bs lo hi))) + (f_term (3 : Int32) fr to (own_bs lo hi))) + (f_term (4 : Int32) fr to (own_bs lo hi))) + (f_term (5 : Int32) fr to (own_bs lo hi))))]))
  obtain ⟨_, _, ⟨T21, L21, k21, n21⟩, -, X21, ⟨Lc21, hQ21, l21, y21, z21⟩, st21⟩ := Jvm.LawKit.callS X20 hx (y := (⟨"com/example/clotwire/clotwire/link/ChecksumOfPinLaw", "term", "([BIII)I"⟩ : MethodName)) hown (mvT hZ (hw _ (List.mem_of_getElem? (i := 1) rfl))) (mvT hZ (hw _ (List.mem_of_getElem? (i := 2) rfl))) (mvT hZ (hw _ (List.mem_of_getElem? (i := 3) rfl))) (mvT hZ (hw _ (List.mem_of_getElem? (i := 4) rfl))) (by decide) (backOf (W := 1) (rm1 l Z a0 hw [] b6 (6 : Int32) fr to (own_bs lo hi) h14 hB (by decide) (by decide)) hZ (hw _ (List.mem_of_getElem? (i := 4) rfl)) (hw _ (List.mem_of_getElem? (i := 3) rfl)) (by decide) (by decide)) (g := (mkF m 163 #[.val (.int lo), .val (.int hi), .val (.int st0), .val (.int sp), .val (.ref b6), .val (.int fr), .val (.int to), .unset, .unset] [(.int to), (.int fr), (.int (6 : Int32)), (.ref b6), (.int ((((((f_term (0 : Int32) fr to (own_bs lo hi)) + (f_term (1 : Int32) fr to (own_bs lo hi))) + (f_term (2 : Int32) fr to (own_bs lo hi))) + (f_term (3 : Int32) fr to (own_bs lo hi))) + (f_term (4 : Int32) fr to (own_bs lo hi))) + (f_term (5 : Int32) fr to (own_bs lo hi))))])) rfl (by rw [hml]; rfl) (argsL := [(.ref b6), (.int (6 : Int32)), (.int fr), (.int to)]) (rest := [(.int ((((((f_term (0 : Int32) fr to (own_bs lo hi)) + (f_term (1 : Int32) fr to (own_bs lo hi))) + (f_term (2 : Int32) fr to (own_bs lo hi))) + (f_term (3 : Int32) fr to (own_bs lo hi))) + (f_term (4 : Int32) fr to (own_bs lo hi))) + (f_term (5 : Int32) fr to (own_bs lo hi))))]) (lenOf pd_2 rfl) rfl (by show 2 * 0 + _ ≤ _; exact Nat.le_of_eq rfl) (hb hby at_163) (fun _ _ => ⟨rfl, e20, (by decide : 1 + 0 ≤ _), (by decide : 8 + 0 ≤ _)⟩)
  dsimp only [Pt.U, Pt.locs, Pt.cells, Pt.slots] at X21 l21 y21 z21 st21 hQ21
  subst l21 y21 z21
  obtain ⟨rfl, rfl, e21⟩ := hQ21
  have NF := Fr.app NF (Fr.nil n0)
  refine Gl.go ?_ st21
  show Gl _ _ _ _ (T21.setTop (mkF m 166 #[.val (.int lo), .val (.int hi), .val (.int st0), .val (.int sp), .val (.ref b6), .val (.int fr), .val (.int to), .unset, .unset] [(.int (f_term (6 : Int32) fr to (own_bs lo hi))), (.int ((((((f_term (0 : Int32) fr to (own_bs lo hi)) + (f_term (1 : Int32) fr to (own_bs lo hi))) + (f_term (2 : Int32) fr to (own_bs lo hi))) + (f_term (3 : Int32) fr to (own_bs lo hi))) + (f_term (4 : Int32) fr to (own_bs lo hi))) + (f_term (5 : Int32) fr to (own_bs lo hi))))]))
  refine Gl.go ?_ (fun t k => XS.iadd X21.here hx rfl (hb hby at_166) rfl k)
  show Gl _ _ _ _ (T21.setTop (mkF m 167 #[.val (.int lo), .val (.int hi), .val (.int st0), .val (.int sp), .val (.ref b6), .val (.int fr), .val (.int to), .unset, .unset] [(.int (((((((f_term (0 : Int32) fr to (own_bs lo hi)) + (f_term (1 : Int32) fr to (own_bs lo hi))) + (f_term (2 : Int32) fr to (own_bs lo hi))) + (f_term (3 : Int32) fr to (own_bs lo hi))) + (f_term (4 : Int32) fr to (own_bs lo hi))) + (f_term (5 : Int32) fr to (own_bs lo hi))) + (f_term (6 : Int32) fr to (own_bs lo hi))))]))
  refine Gl.go ?_ (fun t k => XS.aload X21.here hx rfl (hb hby at_167) rfl rfl k)
  show Gl _ _ _ _ (T21.setTop (mkF m 169 #[.val (.int lo), .val (.int hi), .val (.int st0), .val (.int sp), .val (.ref b6), .val (.int fr), .val (.int to), .unset, .unset] [(.ref b6), (.int (((((((f_term (0 : Int32) fr to (own_bs lo hi)) + (f_term (1 : Int32) fr to (own_bs lo hi))) + (f_term (2 : Int32) fr to (own_bs lo hi))) + (f_term (3 : Int32) fr to (own_bs lo hi))) + (f_term (4 : Int32) fr to (own_bs lo hi))) + (f_term (5 : Int32) fr to (own_bs lo hi))) + (f_term (6 : Int32) fr to (own_bs lo hi))))]))
  refine Gl.go ?_ (fun t k => XS.bipush X21.here hx rfl (hb hby at_169) k)
  show Gl _ _ _ _ (T21.setTop (mkF m 171 #[.val (.int lo), .val (.int hi), .val (.int st0), .val (.int sp), .val (.ref b6), .val (.int fr), .val (.int to), .unset, .unset] [(.int (7 : Int32)), (.ref b6), (.int (((((((f_term (0 : Int32) fr to (own_bs lo hi)) + (f_term (1 : Int32) fr to (own_bs lo hi))) + (f_term (2 : Int32) fr to (own_bs lo hi))) + (f_term (3 : Int32) fr to (own_bs lo hi))) + (f_term (4 : Int32) fr to (own_bs lo hi))) + (f_term (5 : Int32) fr to (own_bs lo hi))) + (f_term (6 : Int32) fr to (own_bs lo hi))))]))
  refine Gl.go ?_ (fun t k => XS.iload X21.here hx rfl (hb hby at_171) rfl k)
  show Gl _ _ _ _ (T21.setTop (mkF m 173 #[.val (.int lo), .val (.int hi), .val (.int st0), .val (.int sp), .val (.ref b6), .val (.int fr), .val (.int to), .unset, .unset] [(.int fr), (.int (7 : Int32)), (.ref b6), (.int (((((((f_term (0 : Int32) fr to (own_bs lo hi)) + (f_term (1 : Int32) fr to (own_bs lo hi))) + (f_term (2 : Int32) fr to (own_bs lo hi))) + (f_term (3 : Int32) fr to (own_bs lo hi))) + (f_term (4 : Int32) fr to (own_bs lo hi))) + (f_term (5 : Int32) fr to (own_bs lo hi))) + (f_term (6 : Int32) fr to (own_bs lo hi))))]))
  refine Gl.go ?_ (fun t k => XS.iload X21.here hx rfl (hb hby at_173) rfl k)
  show Gl _ _ _ _ (T21.setTop (mkF m 175 #[.val (.int lo), .val (.int hi), .val (.int st0), .val (.int sp), .val (.ref b6), .val (.int fr), .val (.int to), .unset, .unset] [(.int to), (.int fr), (.int (7 : Int32)), (.ref b6), (.int (((((((f_term (0 : Int32) fr to (own_bs lo hi)) + (f_term (1 : Int32) fr to (own_bs lo hi))) + (f_term (2 : Int32) fr to (own_bs lo hi))) + (f_term (3 : Int32) fr to (own_bs lo hi))) + (f_term (4 : Int32) fr to (own_bs lo hi))) + (f_term (5 : Int32) fr to (own_bs lo hi))) + (f_term (6 : Int32) fr to (own_bs lo hi))))]))
  obtain ⟨_, _, ⟨T22, L22, k22, n22⟩, -, X22, ⟨Lc22, hQ22, l22, y22, z22⟩, st22⟩ := Jvm.LawKit.callS X21 hx (y := (⟨"com/example/clotwire/clotwire/link/ChecksumOfPinLaw", "term", "([BIII)I"⟩ : MethodName)) hown (mvT hZ (hw _ (List.mem_of_getElem? (i := 1) rfl))) (mvT hZ (hw _ (List.mem_of_getElem? (i := 2) rfl))) (mvT hZ (hw _ (List.mem_of_getElem? (i := 3) rfl))) (mvT hZ (hw _ (List.mem_of_getElem? (i := 4) rfl))) (by decide) (backOf (W := 1) (rm1 l Z a0 hw [] b6 (7 : Int32) fr to (own_bs lo hi) h14 hB (by decide) (by decide)) hZ (hw _ (List.mem_of_getElem? (i := 4) rfl)) (hw _ (List.mem_of_getElem? (i := 3) rfl)) (by decide) (by decide)) (g := (mkF m 175 #[.val (.int lo), .val (.int hi), .val (.int st0), .val (.int sp), .val (.ref b6), .val (.int fr), .val (.int to), .unset, .unset] [(.int to), (.int fr), (.int (7 : Int32)), (.ref b6), (.int (((((((f_term (0 : Int32) fr to (own_bs lo hi)) + (f_term (1 : Int32) fr to (own_bs lo hi))) + (f_term (2 : Int32) fr to (own_bs lo hi))) + (f_term (3 : Int32) fr to (own_bs lo hi))) + (f_term (4 : Int32) fr to (own_bs lo hi))) + (f_term (5 : Int32) fr to (own_bs lo hi))) + (f_term (6 : Int32) fr to (own_bs lo hi))))])) rfl (by rw [hml]; rfl) (argsL := [(.ref b6), (.int (7 : Int32)), (.int fr), (.int to)]) (rest := [(.int (((((((f_term (0 : Int32) fr to (own_bs lo hi)) + (f_term (1 : Int32) fr to (own_bs lo hi))) + (f_term (2 : Int32) fr to (own_bs lo hi))) + (f_term (3 : Int32) fr to (own_bs lo hi))) + (f_term (4 : Int32) fr to (own_bs lo hi))) + (f_term (5 : Int32) fr to (own_bs lo hi))) + (f_term (6 : Int32) fr to (own_bs lo hi))))]) (lenOf pd_2 rfl) rfl (by show 2 * 0 + _ ≤ _; exact Nat.le_of_eq rfl) (hb hby at_175) (fun _ _ => ⟨rfl, e21, (by decide : 1 + 0 ≤ _), (by decide : 8 + 0 ≤ _)⟩)
  dsimp only [Pt.U, Pt.locs, Pt.cells, Pt.slots] at X22 l22 y22 z22 st22 hQ22
  subst l22 y22 z22
  obtain ⟨rfl, rfl, e22⟩ := hQ22
  have NF := Fr.app NF (Fr.nil n0)
  refine Gl.go ?_ st22
  show Gl _ _ _ _ (T22.setTop (mkF m 178 #[.val (.int lo), .val (.int hi), .val (.int st0), .val (.int sp), .val (.ref b6), .val (.int fr), .val (.int to), .unset, .unset] [(.int (f_term (7 : Int32) fr to (own_bs lo hi))), (.int (((((((f_term (0 : Int32) fr to (own_bs lo hi)) + (f_term (1 : Int32) fr to (own_bs lo hi))) + (f_term (2 : Int32) fr to (own_bs lo hi))) + (f_term (3 : Int32) fr to (own_bs lo hi))) + (f_term (4 : Int32) fr to (own_bs lo hi))) + (f_term (5 : Int32) fr to (own_bs lo hi))) + (f_term (6 : Int32) fr to (own_bs lo hi))))]))
  refine Gl.go ?_ (fun t k => XS.iadd X22.here hx rfl (hb hby at_178) rfl k)
  show Gl _ _ _ _ (T22.setTop (mkF m 179 #[.val (.int lo), .val (.int hi), .val (.int st0), .val (.int sp), .val (.ref b6), .val (.int fr), .val (.int to), .unset, .unset] [(.int ((((((((f_term (0 : Int32) fr to (own_bs lo hi)) + (f_term (1 : Int32) fr to (own_bs lo hi))) + (f_term (2 : Int32) fr to (own_bs lo hi))) + (f_term (3 : Int32) fr to (own_bs lo hi))) + (f_term (4 : Int32) fr to (own_bs lo hi))) + (f_term (5 : Int32) fr to (own_bs lo hi))) + (f_term (6 : Int32) fr to (own_bs lo hi))) + (f_term (7 : Int32) fr to (own_bs lo hi))))]))
  refine Gl.go ?_ (fun t k => XS.istore X22.here hx rfl (hb hby at_179) rfl (l' := #[.val (.int lo), .val (.int hi), .val (.int st0), .val (.int sp), .val (.ref b6), .val (.int fr), .val (.int to), .val (.int ((((((((f_term (0 : Int32) fr to (own_bs lo hi)) + (f_term (1 : Int32) fr to (own_bs lo hi))) + (f_term (2 : Int32) fr to (own_bs lo hi))) + (f_term (3 : Int32) fr to (own_bs lo hi))) + (f_term (4 : Int32) fr to (own_bs lo hi))) + (f_term (5 : Int32) fr to (own_bs lo hi))) + (f_term (6 : Int32) fr to (own_bs lo hi))) + (f_term (7 : Int32) fr to (own_bs lo hi)))), .unset]) rfl k)
  show Gl _ _ _ _ (T22.setTop (mkF m 181 #[.val (.int lo), .val (.int hi), .val (.int st0), .val (.int sp), .val (.ref b6), .val (.int fr), .val (.int to), .val (.int ((((((((f_term (0 : Int32) fr to (own_bs lo hi)) + (f_term (1 : Int32) fr to (own_bs lo hi))) + (f_term (2 : Int32) fr to (own_bs lo hi))) + (f_term (3 : Int32) fr to (own_bs lo hi))) + (f_term (4 : Int32) fr to (own_bs lo hi))) + (f_term (5 : Int32) fr to (own_bs lo hi))) + (f_term (6 : Int32) fr to (own_bs lo hi))) + (f_term (7 : Int32) fr to (own_bs lo hi)))), .unset] []))
  refine Gl.go ?_ (fun t k => XS.iload X22.here hx rfl (hb hby at_181) rfl k)
  show Gl _ _ _ _ (T22.setTop (mkF m 183 #[.val (.int lo), .val (.int hi), .val (.int st0), .val (.int sp), .val (.ref b6), .val (.int fr), .val (.int to), .val (.int ((((((((f_term (0 : Int32) fr to (own_bs lo hi)) + (f_term (1 : Int32) fr to (own_bs lo hi))) + (f_term (2 : Int32) fr to (own_bs lo hi))) + (f_term (3 : Int32) fr to (own_bs lo hi))) + (f_term (4 : Int32) fr to (own_bs lo hi))) + (f_term (5 : Int32) fr to (own_bs lo hi))) + (f_term (6 : Int32) fr to (own_bs lo hi))) + (f_term (7 : Int32) fr to (own_bs lo hi)))), .unset] [(.int ((((((((f_term (0 : Int32) fr to (own_bs lo hi)) + (f_term (1 : Int32) fr to (own_bs lo hi))) + (f_term (2 : Int32) fr to (own_bs lo hi))) + (f_term (3 : Int32) fr to (own_bs lo hi))) + (f_term (4 : Int32) fr to (own_bs lo hi))) + (f_term (5 : Int32) fr to (own_bs lo hi))) + (f_term (6 : Int32) fr to (own_bs lo hi))) + (f_term (7 : Int32) fr to (own_bs lo hi))))]))
  refine Gl.go ?_ (fun t k => XS.sipush X22.here hx rfl (hb hby at_183) k)
  show Gl _ _ _ _ (T22.setTop (mkF m 186 #[.val (.int lo), .val (.int hi), .val (.int st0), .val (.int sp), .val (.ref b6), .val (.int fr), .val (.int to), .val (.int ((((((((f_term (0 : Int32) fr to (own_bs lo hi)) + (f_term (1 : Int32) fr to (own_bs lo hi))) + (f_term (2 : Int32) fr to (own_bs lo hi))) + (f_term (3 : Int32) fr to (own_bs lo hi))) + (f_term (4 : Int32) fr to (own_bs lo hi))) + (f_term (5 : Int32) fr to (own_bs lo hi))) + (f_term (6 : Int32) fr to (own_bs lo hi))) + (f_term (7 : Int32) fr to (own_bs lo hi)))), .unset] [(.int (256 : Int32)), (.int ((((((((f_term (0 : Int32) fr to (own_bs lo hi)) + (f_term (1 : Int32) fr to (own_bs lo hi))) + (f_term (2 : Int32) fr to (own_bs lo hi))) + (f_term (3 : Int32) fr to (own_bs lo hi))) + (f_term (4 : Int32) fr to (own_bs lo hi))) + (f_term (5 : Int32) fr to (own_bs lo hi))) + (f_term (6 : Int32) fr to (own_bs lo hi))) + (f_term (7 : Int32) fr to (own_bs lo hi))))]))
  refine Gl.go ?_ (fun t k => iremM X22 hx rfl (hb hby at_186) rfl (by decide) k)
  show Gl _ _ _ _ (T22.setTop (mkF m 187 #[.val (.int lo), .val (.int hi), .val (.int st0), .val (.int sp), .val (.ref b6), .val (.int fr), .val (.int to), .val (.int ((((((((f_term (0 : Int32) fr to (own_bs lo hi)) + (f_term (1 : Int32) fr to (own_bs lo hi))) + (f_term (2 : Int32) fr to (own_bs lo hi))) + (f_term (3 : Int32) fr to (own_bs lo hi))) + (f_term (4 : Int32) fr to (own_bs lo hi))) + (f_term (5 : Int32) fr to (own_bs lo hi))) + (f_term (6 : Int32) fr to (own_bs lo hi))) + (f_term (7 : Int32) fr to (own_bs lo hi)))), .unset] [(.int (((((((((f_term (0 : Int32) fr to (own_bs lo hi)) + (f_term (1 : Int32) fr to (own_bs lo hi))) + (f_term (2 : Int32) fr to (own_bs lo hi))) + (f_term (3 : Int32) fr to (own_bs lo hi))) + (f_term (4 : Int32) fr to (own_bs lo hi))) + (f_term (5 : Int32) fr to (own_bs lo hi))) + (f_term (6 : Int32) fr to (own_bs lo hi))) + (f_term (7 : Int32) fr to (own_bs lo hi))) % (256 : Int32)))]))
  refine Gl.go ?_ (fun t k => XS.istore X22.here hx rfl (hb hby at_187) rfl (l' := #[.val (.int lo), .val (.int hi), .val (.int st0), .val (.int sp), .val (.ref b6), .val (.int fr), .val (.int to), .val (.int ((((((((f_term (0 : Int32) fr to (own_bs lo hi)) + (f_term (1 : Int32) fr to (own_bs lo hi))) + (f_term (2 : Int32) fr to (own_bs lo hi))) + (f_term (3 : Int32) fr to (own_bs lo hi))) + (f_term (4 : Int32) fr to (own_bs lo hi))) + (f_term (5 : Int32) fr to (own_bs lo hi))) + (f_term (6 : Int32) fr to (own_bs lo hi))) + (f_term (7 : Int32) fr to (own_bs lo hi)))), .val (.int (((((((((f_term (0 : Int32) fr to (own_bs lo hi)) + (f_term (1 : Int32) fr to (own_bs lo hi))) + (f_term (2 : Int32) fr to (own_bs lo hi))) + (f_term (3 : Int32) fr to (own_bs lo hi))) + (f_term (4 : Int32) fr to (own_bs lo hi))) + (f_term (5 : Int32) fr to (own_bs lo hi))) + (f_term (6 : Int32) fr to (own_bs lo hi))) + (f_term (7 : Int32) fr to (own_bs lo hi))) % (256 : Int32)))]) rfl k)
  show Gl _ _ _ _ (T22.setTop (mkF m 189 #[.val (.int lo), .val (.int hi), .val (.int st0), .val (.int sp), .val (.ref b6), .val (.int fr), .val (.int to), .val (.int ((((((((f_term (0 : Int32) fr to (own_bs lo hi)) + (f_term (1 : Int32) fr to (own_bs lo hi))) + (f_term (2 : Int32) fr to (own_bs lo hi))) + (f_term (3 : Int32) fr to (own_bs lo hi))) + (f_term (4 : Int32) fr to (own_bs lo hi))) + (f_term (5 : Int32) fr to (own_bs lo hi))) + (f_term (6 : Int32) fr to (own_bs lo hi))) + (f_term (7 : Int32) fr to (own_bs lo hi)))), .val (.int (((((((((f_term (0 : Int32) fr to (own_bs lo hi)) + (f_term (1 : Int32) fr to (own_bs lo hi))) + (f_term (2 : Int32) fr to (own_bs lo hi))) + (f_term (3 : Int32) fr to (own_bs lo hi))) + (f_term (4 : Int32) fr to (own_bs lo hi))) + (f_term (5 : Int32) fr to (own_bs lo hi))) + (f_term (6 : Int32) fr to (own_bs lo hi))) + (f_term (7 : Int32) fr to (own_bs lo hi))) % (256 : Int32)))] []))
  refine Gl.go ?_ (fun t k => XS.aload X22.here hx rfl (hb hby at_189) rfl rfl k)
  show Gl _ _ _ _ (T22.setTop (mkF m 191 #[.val (.int lo), .val (.int hi), .val (.int st0), .val (.int sp), .val (.ref b6), .val (.int fr), .val (.int to), .val (.int ((((((((f_term (0 : Int32) fr to (own_bs lo hi)) + (f_term (1 : Int32) fr to (own_bs lo hi))) + (f_term (2 : Int32) fr to (own_bs lo hi))) + (f_term (3 : Int32) fr to (own_bs lo hi))) + (f_term (4 : Int32) fr to (own_bs lo hi))) + (f_term (5 : Int32) fr to (own_bs lo hi))) + (f_term (6 : Int32) fr to (own_bs lo hi))) + (f_term (7 : Int32) fr to (own_bs lo hi)))), .val (.int (((((((((f_term (0 : Int32) fr to (own_bs lo hi)) + (f_term (1 : Int32) fr to (own_bs lo hi))) + (f_term (2 : Int32) fr to (own_bs lo hi))) + (f_term (3 : Int32) fr to (own_bs lo hi))) + (f_term (4 : Int32) fr to (own_bs lo hi))) + (f_term (5 : Int32) fr to (own_bs lo hi))) + (f_term (6 : Int32) fr to (own_bs lo hi))) + (f_term (7 : Int32) fr to (own_bs lo hi))) % (256 : Int32)))] [(.ref b6)]))
  refine Gl.go ?_ (fun t k => XS.iload X22.here hx rfl (hb hby at_191) rfl k)
  show Gl _ _ _ _ (T22.setTop (mkF m 193 #[.val (.int lo), .val (.int hi), .val (.int st0), .val (.int sp), .val (.ref b6), .val (.int fr), .val (.int to), .val (.int ((((((((f_term (0 : Int32) fr to (own_bs lo hi)) + (f_term (1 : Int32) fr to (own_bs lo hi))) + (f_term (2 : Int32) fr to (own_bs lo hi))) + (f_term (3 : Int32) fr to (own_bs lo hi))) + (f_term (4 : Int32) fr to (own_bs lo hi))) + (f_term (5 : Int32) fr to (own_bs lo hi))) + (f_term (6 : Int32) fr to (own_bs lo hi))) + (f_term (7 : Int32) fr to (own_bs lo hi)))), .val (.int (((((((((f_term (0 : Int32) fr to (own_bs lo hi)) + (f_term (1 : Int32) fr to (own_bs lo hi))) + (f_term (2 : Int32) fr to (own_bs lo hi))) + (f_term (3 : Int32) fr to (own_bs lo hi))) + (f_term (4 : Int32) fr to (own_bs lo hi))) + (f_term (5 : Int32) fr to (own_bs lo hi))) + (f_term (6 : Int32) fr to (own_bs lo hi))) + (f_term (7 : Int32) fr to (own_bs lo hi))) % (256 : Int32)))] [(.int fr), (.ref b6)]))
  refine Gl.go ?_ (fun t k => XS.iload X22.here hx rfl (hb hby at_193) rfl k)
  show Gl _ _ _ _ (T22.setTop (mkF m 195 #[.val (.int lo), .val (.int hi), .val (.int st0), .val (.int sp), .val (.ref b6), .val (.int fr), .val (.int to), .val (.int ((((((((f_term (0 : Int32) fr to (own_bs lo hi)) + (f_term (1 : Int32) fr to (own_bs lo hi))) + (f_term (2 : Int32) fr to (own_bs lo hi))) + (f_term (3 : Int32) fr to (own_bs lo hi))) + (f_term (4 : Int32) fr to (own_bs lo hi))) + (f_term (5 : Int32) fr to (own_bs lo hi))) + (f_term (6 : Int32) fr to (own_bs lo hi))) + (f_term (7 : Int32) fr to (own_bs lo hi)))), .val (.int (((((((((f_term (0 : Int32) fr to (own_bs lo hi)) + (f_term (1 : Int32) fr to (own_bs lo hi))) + (f_term (2 : Int32) fr to (own_bs lo hi))) + (f_term (3 : Int32) fr to (own_bs lo hi))) + (f_term (4 : Int32) fr to (own_bs lo hi))) + (f_term (5 : Int32) fr to (own_bs lo hi))) + (f_term (6 : Int32) fr to (own_bs lo hi))) + (f_term (7 : Int32) fr to (own_bs lo hi))) % (256 : Int32)))] [(.int to), (.int fr), (.ref b6)]))
  obtain ⟨_, _, ⟨T23, L23, k23, n23⟩, -, X23, ⟨Lc23, hQ23, l23, y23, z23⟩, st23⟩ := Jvm.LawKit.callS X22 hx (y := (⟨"com/example/clotwire/clotwire/link/Checksum", "of", "([BII)I"⟩ : MethodName)) hown (mvT hZ (hw _ (List.mem_of_getElem? (i := 5) rfl))) (mvT hZ (hw _ (List.mem_of_getElem? (i := 6) rfl))) (mvT hZ (hw _ (List.mem_of_getElem? (i := 7) rfl))) (mvT hZ (hw _ (List.mem_of_getElem? (i := 8) rfl))) (by decide) (backOf (W := 0) (rm2 l Z a0 hw [] b6 fr to (own_bs lo hi) h14 hB hk0 hpq hq) hZ (hw _ (List.mem_of_getElem? (i := 8) rfl)) (hw _ (List.mem_of_getElem? (i := 7) rfl)) (by decide) (by decide)) (g := (mkF m 195 #[.val (.int lo), .val (.int hi), .val (.int st0), .val (.int sp), .val (.ref b6), .val (.int fr), .val (.int to), .val (.int ((((((((f_term (0 : Int32) fr to (own_bs lo hi)) + (f_term (1 : Int32) fr to (own_bs lo hi))) + (f_term (2 : Int32) fr to (own_bs lo hi))) + (f_term (3 : Int32) fr to (own_bs lo hi))) + (f_term (4 : Int32) fr to (own_bs lo hi))) + (f_term (5 : Int32) fr to (own_bs lo hi))) + (f_term (6 : Int32) fr to (own_bs lo hi))) + (f_term (7 : Int32) fr to (own_bs lo hi)))), .val (.int (((((((((f_term (0 : Int32) fr to (own_bs lo hi)) + (f_term (1 : Int32) fr to (own_bs lo hi))) + (f_term (2 : Int32) fr to (own_bs lo hi))) + (f_term (3 : Int32) fr to (own_bs lo hi))) + (f_term (4 : Int32) fr to (own_bs lo hi))) + (f_term (5 : Int32) fr to (own_bs lo hi))) + (f_term (6 : Int32) fr to (own_bs lo hi))) + (f_term (7 : Int32) fr to (own_bs lo hi))) % (256 : Int32)))] [(.int to), (.int fr), (.ref b6)])) rfl (by rw [hml]; rfl) (argsL := [(.ref b6), (.int fr), (.int to)]) (rest := []) (lenOf pd_3 rfl) rfl (by show 2 * 0 + _ ≤ _; exact Nat.le_of_eq rfl) (hb hby at_195) (fun _ _ => ⟨rfl, e22, (by decide : 1 + 0 ≤ _), (by decide : 8 + 0 ≤ _)⟩)
  dsimp only [Pt.U, Pt.locs, Pt.cells, Pt.slots] at X23 l23 y23 z23 st23 hQ23
  subst l23 y23 z23
  obtain ⟨rfl, rfl, e23⟩ := hQ23
  have NF := Fr.app NF (Fr.nil n0)
  refine Gl.go ?_ st23
  show Gl _ _ _ _ (T23.setTop (mkF m 198 #[.val (.int lo), .val (.int hi), .val (.int st0), .val (.int sp), .val (.ref b6), .val (.int fr), .val (.int to), .val (.int ((((((((f_term (0 : Int32) fr to (own_bs lo hi)) + (f_term (1 : Int32) fr to (own_bs lo hi))) + (f_term (2 : Int32) fr to (own_bs lo hi))) + (f_term (3 : Int32) fr to (own_bs lo hi))) + (f_term (4 : Int32) fr to (own_bs lo hi))) + (f_term (5 : Int32) fr to (own_bs lo hi))) + (f_term (6 : Int32) fr to (own_bs lo hi))) + (f_term (7 : Int32) fr to (own_bs lo hi)))), .val (.int (((((((((f_term (0 : Int32) fr to (own_bs lo hi)) + (f_term (1 : Int32) fr to (own_bs lo hi))) + (f_term (2 : Int32) fr to (own_bs lo hi))) + (f_term (3 : Int32) fr to (own_bs lo hi))) + (f_term (4 : Int32) fr to (own_bs lo hi))) + (f_term (5 : Int32) fr to (own_bs lo hi))) + (f_term (6 : Int32) fr to (own_bs lo hi))) + (f_term (7 : Int32) fr to (own_bs lo hi))) % (256 : Int32)))] [(.int (f_of fr to (own_bs lo hi)))]))
  refine Gl.go ?_ (fun t k => XS.iload X23.here hx rfl (hb hby at_198) rfl k)
  show Gl _ _ _ _ (T23.setTop (mkF m 200 #[.val (.int lo), .val (.int hi), .val (.int st0), .val (.int sp), .val (.ref b6), .val (.int fr), .val (.int to), .val (.int ((((((((f_term (0 : Int32) fr to (own_bs lo hi)) + (f_term (1 : Int32) fr to (own_bs lo hi))) + (f_term (2 : Int32) fr to (own_bs lo hi))) + (f_term (3 : Int32) fr to (own_bs lo hi))) + (f_term (4 : Int32) fr to (own_bs lo hi))) + (f_term (5 : Int32) fr to (own_bs lo hi))) + (f_term (6 : Int32) fr to (own_bs lo hi))) + (f_term (7 : Int32) fr to (own_bs lo hi)))), .val (.int (((((((((f_term (0 : Int32) fr to (own_bs lo hi)) + (f_term (1 : Int32) fr to (own_bs lo hi))) + (f_term (2 : Int32) fr to (own_bs lo hi))) + (f_term (3 : Int32) fr to (own_bs lo hi))) + (f_term (4 : Int32) fr to (own_bs lo hi))) + (f_term (5 : Int32) fr to (own_bs lo hi))) + (f_term (6 : Int32) fr to (own_bs lo hi))) + (f_term (7 : Int32) fr to (own_bs lo hi))) % (256 : Int32)))] [(.int (((((((((f_term (0 : Int32) fr to (own_bs lo hi)) + (f_term (1 : Int32) fr to (own_bs lo hi))) + (f_term (2 : Int32) fr to (own_bs lo hi))) + (f_term (3 : Int32) fr to (own_bs lo hi))) + (f_term (4 : Int32) fr to (own_bs lo hi))) + (f_term (5 : Int32) fr to (own_bs lo hi))) + (f_term (6 : Int32) fr to (own_bs lo hi))) + (f_term (7 : Int32) fr to (own_bs lo hi))) % (256 : Int32))), (.int (f_of fr to (own_bs lo hi)))]))
  by_cases hc24 : (f_of fr to (own_bs lo hi)) = (((((((((f_term (0 : Int32) fr to (own_bs lo hi)) + (f_term (1 : Int32) fr to (own_bs lo hi))) + (f_term (2 : Int32) fr to (own_bs lo hi))) + (f_term (3 : Int32) fr to (own_bs lo hi))) + (f_term (4 : Int32) fr to (own_bs lo hi))) + (f_term (5 : Int32) fr to (own_bs lo hi))) + (f_term (6 : Int32) fr to (own_bs lo hi))) + (f_term (7 : Int32) fr to (own_bs lo hi))) % (256 : Int32))
  · refine Gl.go ?_ (fun t k => XS.icmpNo X23.here hx rfl (hb hby at_200) rfl (teq hc24).2 k)
    show Gl _ _ _ _ (T23.setTop (mkF m 203 #[.val (.int lo), .val (.int hi), .val (.int st0), .val (.int sp), .val (.ref b6), .val (.int fr), .val (.int to), .val (.int ((((((((f_term (0 : Int32) fr to (own_bs lo hi)) + (f_term (1 : Int32) fr to (own_bs lo hi))) + (f_term (2 : Int32) fr to (own_bs lo hi))) + (f_term (3 : Int32) fr to (own_bs lo hi))) + (f_term (4 : Int32) fr to (own_bs lo hi))) + (f_term (5 : Int32) fr to (own_bs lo hi))) + (f_term (6 : Int32) fr to (own_bs lo hi))) + (f_term (7 : Int32) fr to (own_bs lo hi)))), .val (.int (((((((((f_term (0 : Int32) fr to (own_bs lo hi)) + (f_term (1 : Int32) fr to (own_bs lo hi))) + (f_term (2 : Int32) fr to (own_bs lo hi))) + (f_term (3 : Int32) fr to (own_bs lo hi))) + (f_term (4 : Int32) fr to (own_bs lo hi))) + (f_term (5 : Int32) fr to (own_bs lo hi))) + (f_term (6 : Int32) fr to (own_bs lo hi))) + (f_term (7 : Int32) fr to (own_bs lo hi))) % (256 : Int32)))] []))
    refine Gl.go ?_ (fun t k => XS.iconst X23.here hx rfl (hb hby at_203) k)
    show Gl _ _ _ _ (T23.setTop (mkF m 204 #[.val (.int lo), .val (.int hi), .val (.int st0), .val (.int sp), .val (.ref b6), .val (.int fr), .val (.int to), .val (.int ((((((((f_term (0 : Int32) fr to (own_bs lo hi)) + (f_term (1 : Int32) fr to (own_bs lo hi))) + (f_term (2 : Int32) fr to (own_bs lo hi))) + (f_term (3 : Int32) fr to (own_bs lo hi))) + (f_term (4 : Int32) fr to (own_bs lo hi))) + (f_term (5 : Int32) fr to (own_bs lo hi))) + (f_term (6 : Int32) fr to (own_bs lo hi))) + (f_term (7 : Int32) fr to (own_bs lo hi)))), .val (.int (((((((((f_term (0 : Int32) fr to (own_bs lo hi)) + (f_term (1 : Int32) fr to (own_bs lo hi))) + (f_term (2 : Int32) fr to (own_bs lo hi))) + (f_term (3 : Int32) fr to (own_bs lo hi))) + (f_term (4 : Int32) fr to (own_bs lo hi))) + (f_term (5 : Int32) fr to (own_bs lo hi))) + (f_term (6 : Int32) fr to (own_bs lo hi))) + (f_term (7 : Int32) fr to (own_bs lo hi))) % (256 : Int32)))] [(.int (1 : Int32))]))
    refine Gl.go ?_ (fun t k => XS.goto X23.here hx rfl (pc0 := 204) (pc' := 208) rfl (hb hby at_204) (by decide) (by decide) k)
    show Gl _ _ _ _ (T23.setTop (mkF m 208 #[.val (.int lo), .val (.int hi), .val (.int st0), .val (.int sp), .val (.ref b6), .val (.int fr), .val (.int to), .val (.int ((((((((f_term (0 : Int32) fr to (own_bs lo hi)) + (f_term (1 : Int32) fr to (own_bs lo hi))) + (f_term (2 : Int32) fr to (own_bs lo hi))) + (f_term (3 : Int32) fr to (own_bs lo hi))) + (f_term (4 : Int32) fr to (own_bs lo hi))) + (f_term (5 : Int32) fr to (own_bs lo hi))) + (f_term (6 : Int32) fr to (own_bs lo hi))) + (f_term (7 : Int32) fr to (own_bs lo hi)))), .val (.int (((((((((f_term (0 : Int32) fr to (own_bs lo hi)) + (f_term (1 : Int32) fr to (own_bs lo hi))) + (f_term (2 : Int32) fr to (own_bs lo hi))) + (f_term (3 : Int32) fr to (own_bs lo hi))) + (f_term (4 : Int32) fr to (own_bs lo hi))) + (f_term (5 : Int32) fr to (own_bs lo hi))) + (f_term (6 : Int32) fr to (own_bs lo hi))) + (f_term (7 : Int32) fr to (own_bs lo hi))) % (256 : Int32)))] [(.int (1 : Int32))]))
    obtain ⟨fs, hr, hrun, hended, hW, hsame⟩ := X23.leave (v := some (.int (1 : Int32))) (fun h => by rw [Bd.returns] at h; cases h) (BodyLoose.notSynchronized Bd)
    exact Gl.mk ⟨_, _, retN X23 hx (t := .boolean) Bd.returns (by simp) (hb hby at_208) hr, hrun, hended, _, _, rfl, ⟨congrArg (fun z => some (Value.int z)) ((if_pos hc24).trans (rfl)).symm, NF⟩, ⟨_, rfl⟩, hW, hsame.mono (by decide) (by decide)⟩
  · refine Gl.go ?_ (fun t k => XS.icmpYes X23.here hx rfl (pc0 := 200) (pc' := 207) rfl (hb hby at_200) rfl (feq hc24).2 (by decide) (by decide) k)
    show Gl _ _ _ _ (T23.setTop (mkF m 207 #[.val (.int lo), .val (.int hi), .val (.int st0), .val (.int sp), .val (.ref b6), .val (.int fr), .val (.int to), .val (.int ((((((((f_term (0 : Int32) fr to (own_bs lo hi)) + (f_term (1 : Int32) fr to (own_bs lo hi))) + (f_term (2 : Int32) fr to (own_bs lo hi))) + (f_term (3 : Int32) fr to (own_bs lo hi))) + (f_term (4 : Int32) fr to (own_bs lo hi))) + (f_term (5 : Int32) fr to (own_bs lo hi))) + (f_term (6 : Int32) fr to (own_bs lo hi))) + (f_term (7 : Int32) fr to (own_bs lo hi)))), .val (.int (((((((((f_term (0 : Int32) fr to (own_bs lo hi)) + (f_term (1 : Int32) fr to (own_bs lo hi))) + (f_term (2 : Int32) fr to (own_bs lo hi))) + (f_term (3 : Int32) fr to (own_bs lo hi))) + (f_term (4 : Int32) fr to (own_bs lo hi))) + (f_term (5 : Int32) fr to (own_bs lo hi))) + (f_term (6 : Int32) fr to (own_bs lo hi))) + (f_term (7 : Int32) fr to (own_bs lo hi))) % (256 : Int32)))] []))
    refine Gl.go ?_ (fun t k => XS.iconst X23.here hx rfl (hb hby at_207) k)
    show Gl _ _ _ _ (T23.setTop (mkF m 208 #[.val (.int lo), .val (.int hi), .val (.int st0), .val (.int sp), .val (.ref b6), .val (.int fr), .val (.int to), .val (.int ((((((((f_term (0 : Int32) fr to (own_bs lo hi)) + (f_term (1 : Int32) fr to (own_bs lo hi))) + (f_term (2 : Int32) fr to (own_bs lo hi))) + (f_term (3 : Int32) fr to (own_bs lo hi))) + (f_term (4 : Int32) fr to (own_bs lo hi))) + (f_term (5 : Int32) fr to (own_bs lo hi))) + (f_term (6 : Int32) fr to (own_bs lo hi))) + (f_term (7 : Int32) fr to (own_bs lo hi)))), .val (.int (((((((((f_term (0 : Int32) fr to (own_bs lo hi)) + (f_term (1 : Int32) fr to (own_bs lo hi))) + (f_term (2 : Int32) fr to (own_bs lo hi))) + (f_term (3 : Int32) fr to (own_bs lo hi))) + (f_term (4 : Int32) fr to (own_bs lo hi))) + (f_term (5 : Int32) fr to (own_bs lo hi))) + (f_term (6 : Int32) fr to (own_bs lo hi))) + (f_term (7 : Int32) fr to (own_bs lo hi))) % (256 : Int32)))] [(.int (0 : Int32))]))
    obtain ⟨fs, hr, hrun, hended, hW, hsame⟩ := X23.leave (v := some (.int (0 : Int32))) (fun h => by rw [Bd.returns] at h; cases h) (BodyLoose.notSynchronized Bd)
    exact Gl.mk ⟨_, _, retN X23 hx (t := .boolean) Bd.returns (by simp) (hb hby at_208) hr, hrun, hended, _, _, rfl, ⟨congrArg (fun z => some (Value.int z)) ((if_neg hc24).trans (rfl)).symm, NF⟩, ⟨_, rfl⟩, hW, hsame.mono (by decide) (by decide)⟩
def own_x (B : Int32 → Int32) (j : Int32) : Int32 := B j &&& 255
theorem own_mod (z : Int32) (h : 0 ≤ z.toInt) : z &&& 255 = z % 256 := by
  apply Int32.toInt_inj.mp
  rw [Jvm.Kit.i32_mask z 255 (k := 8) (by decide) (by decide), Jvm.Kit.i32_rem_nonneg h]
  rfl
theorem own_y (v : Int32) (h1 : -128 ≤ v.toInt) (h2 : v.toInt ≤ 127) : (if v < (0 : Int32) then v + (256 : Int32) else v) = v &&& 255 := by
  apply Int32.toInt_inj.mp
  rw [Jvm.Kit.i32_mask v 255 (k := 8) (by decide) (by decide)]
  have e : (256 : Int32).toInt = 256 := rfl
  by_cases h : v < (0 : Int32)
  · have q := iv_lt (k := 0) rfl h
    rw [if_pos h, Jvm.Kit.i32_add (by omega) (by omega)]; omega
  · have q := iv_nlt (k := 0) rfl h
    rw [if_neg h]; omega
theorem own_term (B : Int32 → Int32) (hB : ∀ j, -128 ≤ (B j).toInt ∧ (B j).toInt ≤ 127) (j u v : Int32) : f_term j u v B = if j < u then 0 else if j < v then own_x B j else 0 := by
  unfold f_term own_x
  rw [own_y _ (hB j).1 (hB j).2]
theorem own_x0 (B : Int32 → Int32) (j : Int32) : 0 ≤ (own_x B j).toInt ∧ (own_x B j).toInt ≤ 255 := by
  unfold own_x
  rw [Jvm.Kit.i32_mask (B j) 255 (k := 8) (by decide) (by decide)]; omega
theorem own_t0 (B : Int32 → Int32) (j u v : Int32) : 0 ≤ (if j < u then (0 : Int32) else if j < v then own_x B j else 0).toInt ∧ (if j < u then (0 : Int32) else if j < v then own_x B j else 0).toInt ≤ 255 := by
  have e0 : (0 : Int32).toInt = 0 := rfl
  split
  · omega
  · split
    · exact own_x0 B j
    · omega
theorem own_plus {a b : Int32} {c : Int} (ha : 0 ≤ a.toInt ∧ a.toInt ≤ c) (hb : 0 ≤ b.toInt ∧ b.toInt ≤ 255) (hc : c ≤ 10000) : 0 ≤ (a + b).toInt ∧ (a + b).toInt ≤ c + 255 := by
  rw [Jvm.Kit.i32_add (by omega) (by omega)]; omega
set_option maxHeartbeats 4000000 in
theorem own_sum9 (B : Int32 → Int32) : ∀ a b : Nat, a ≤ b → b ≤ 8 → f_sum B (b - a) (Int32.ofNat a) 0 =
    (if (0 : Int32) < Int32.ofNat a then (0 : Int32) else if (0 : Int32) < Int32.ofNat b then own_x B 0 else 0) + (if (1 : Int32) < Int32.ofNat a then (0 : Int32) else if (1 : Int32) < Int32.ofNat b then own_x B 1 else 0) + (if (2 : Int32) < Int32.ofNat a then (0 : Int32) else if (2 : Int32) < Int32.ofNat b then own_x B 2 else 0) + (if (3 : Int32) < Int32.ofNat a then (0 : Int32) else if (3 : Int32) < Int32.ofNat b then own_x B 3 else 0) + (if (4 : Int32) < Int32.ofNat a then (0 : Int32) else if (4 : Int32) < Int32.ofNat b then own_x B 4 else 0) + (if (5 : Int32) < Int32.ofNat a then (0 : Int32) else if (5 : Int32) < Int32.ofNat b then own_x B 5 else 0) + (if (6 : Int32) < Int32.ofNat a then (0 : Int32) else if (6 : Int32) < Int32.ofNat b then own_x B 6 else 0) + (if (7 : Int32) < Int32.ofNat a then (0 : Int32) else if (7 : Int32) < Int32.ofNat b then own_x B 7 else 0) := by
  intro a b hab hb
  obtain rfl | rfl | rfl | rfl | rfl | rfl | rfl | rfl | rfl : a = 0 ∨ a = 1 ∨ a = 2 ∨ a = 3 ∨ a = 4 ∨ a = 5 ∨ a = 6 ∨ a = 7 ∨ a = 8 := by omega
  all_goals
    obtain rfl | rfl | rfl | rfl | rfl | rfl | rfl | rfl | rfl : b = 0 ∨ b = 1 ∨ b = 2 ∨ b = 3 ∨ b = 4 ∨ b = 5 ∨ b = 6 ∨ b = 7 ∨ b = 8 := by omega
    all_goals first | (exfalso; omega) | (simp +decide only [Nat.reduceSub, f_sum, own_x, Int32.reduceOfNat, if_true, if_false, Int32.zero_add, Int32.add_zero]; done) | (simp +decide [f_sum, own_x]; done)
theorem own_law (B : Int32 → Int32) (hB : ∀ j, -128 ≤ (B j).toInt ∧ (B j).toInt ≤ 127) (u v : Int32) (h0 : 0 ≤ u.toInt) (h1 : u.toInt ≤ v.toInt) (h2 : v.toInt ≤ 8) : f_of u v B = (f_term 0 u v B + f_term 1 u v B + f_term 2 u v B + f_term 3 u v B + f_term 4 u v B + f_term 5 u v B + f_term 6 u v B + f_term 7 u v B) % 256 := by
  have e1 := own_nat h0
  have e2 := own_nat (x := v) (by omega)
  have e3 := own_sum9 B u.toInt.toNat v.toInt.toNat (by omega) (by omega)
  rw [← e1, ← e2, show v.toInt.toNat - u.toInt.toNat = (v.toInt - u.toInt).toNat by omega] at e3
  simp only [own_term B hB]
  rw [← e3]
  unfold f_of
  refine own_mod _ ?_
  rw [e3]
  exact (own_plus (c := 1785) (own_plus (c := 1530) (own_plus (c := 1275) (own_plus (c := 1020) (own_plus (c := 765) (own_plus (c := 510) (own_plus (c := 255) (own_t0 B _ _ _) (own_t0 B _ _ _) (by decide)) (own_t0 B _ _ _) (by decide)) (own_t0 B _ _ _) (by decide)) (own_t0 B _ _ _) (by decide)) (own_t0 B _ _ _) (by decide)) (own_t0 B _ _ _) (by decide)) (own_t0 B _ _ _) (by decide)).1
theorem own_narb (x : Int32) : -128 ≤ (nar .byte x).toInt ∧ (nar .byte x).toInt ≤ 127 := by
  show -128 ≤ (x.toInt8.toInt32).toInt ∧ (x.toInt8.toInt32).toInt ≤ 127
  have h1 := x.toInt8.le_toInt
  have h2 := x.toInt8.toInt_lt
  rw [Int8.toInt_toInt32]; omega
theorem own_nthb {xs : List Int32} (h : ∀ x ∈ xs, -128 ≤ x.toInt ∧ x.toInt ≤ 127) (j : Int32) : -128 ≤ (nth xs j).toInt ∧ (nth xs j).toInt ≤ 127 := by
  unfold nth
  rw [List.getD_eq_getElem?_getD]
  cases q : xs[j.toNatClampNeg]? with
  | none => exact ⟨by decide, by decide⟩
  | some x => exact h x (List.mem_of_getElem? q)
theorem own_bsb (lo hi : Int32) (j : Int32) : -128 ≤ (own_bs lo hi j).toInt ∧ (own_bs lo hi j).toInt ≤ 127 := by
  refine own_nthb (fun x hx => ?_) j
  simp only [List.mem_cons, List.not_mem_nil, or_false] at hx
  rcases hx with rfl | rfl | rfl | rfl | rfl | rfl | rfl | rfl <;> exact own_narb _
theorem own_one {u v : Int32} (lo hi : Int32) (h0 : 0 ≤ u.toInt) (h1 : u.toInt ≤ v.toInt) (h2 : v.toInt ≤ 8) : f_law lo hi u v = 1 := if_pos (own_law _ (own_bsb lo hi) u v h0 h1 h2)
theorem own_args (a b : Int32) : ∃ fr to : Int32, (a &&& (15 : Int32)) % (9 : Int32) = fr ∧ (9 : Int32) - fr ≠ 0 ∧ fr + (b &&& (15 : Int32)) % ((9 : Int32) - fr) = to ∧ 0 ≤ fr.toInt ∧ fr.toInt ≤ to.toInt ∧ to.toInt ≤ 8 := by
  have ea : (a &&& (15 : Int32)).toInt = a.toInt % 2 ^ 4 := Jvm.Kit.i32_mask a 15 (k := 4) (by decide) (by decide)
  have eb : (b &&& (15 : Int32)).toInt = b.toInt % 2 ^ 4 := Jvm.Kit.i32_mask b 15 (k := 4) (by decide) (by decide)
  have e9 : (9 : Int32).toInt = 9 := rfl
  have e0 : (0 : Int32).toInt = 0 := rfl
  have h1 : ((a &&& (15 : Int32)) % (9 : Int32)).toInt = (a &&& (15 : Int32)).toInt % 9 := Jvm.Kit.i32_rem_nonneg (by omega)
  generalize (a &&& (15 : Int32)) % (9 : Int32) = fr at h1
  have h2 : ((9 : Int32) - fr).toInt = 9 - fr.toInt := by rw [Jvm.Kit.i32_sub (by omega) (by omega), e9]
  have h3 : ((b &&& (15 : Int32)) % ((9 : Int32) - fr)).toInt = (b &&& (15 : Int32)).toInt % ((9 : Int32) - fr).toInt := Jvm.Kit.i32_rem_nonneg (by omega)
  have h4 : 0 ≤ (b &&& (15 : Int32)).toInt % ((9 : Int32) - fr).toInt := Int.emod_nonneg _ (by omega)
  have h5 : (b &&& (15 : Int32)).toInt % ((9 : Int32) - fr).toInt < ((9 : Int32) - fr).toInt := Int.emod_lt_of_pos _ (by omega)
  have h6 : (fr + (b &&& (15 : Int32)) % ((9 : Int32) - fr)).toInt = fr.toInt + ((b &&& (15 : Int32)) % ((9 : Int32) - fr)).toInt := Jvm.Kit.i32_add (by omega) (by omega)
  refine ⟨fr, _, rfl, fun q => ?_, rfl, by omega, by omega, by omega⟩
  rw [q] at h2
  omega
set_option maxRecDepth 65536 in
set_option maxHeartbeats 40000000 in
theorem comes_1 {Post : Tables → Env → Array Value → State → Outcome → State → Prop} (hpost : ∀ tb e args s v u, (limb_1_1.after args s (.returned v) u = true ∧ limb_1_2.after args s (.returned v) u = true ∧ True) → FrameEnd s (.returned v) u (Jvm.fieldLocs frame_1_writes args s ++ Jvm.arrayLocs frame_1_arrays args s ++ Jvm.staticLocs frame_1_statics s) 16 128 → Post tb e args s (.returned v) u) :
    ArmFor flags0 classFile x code maxLocals ret World_1 tables_1 room_1 Calls_1 rest_1 Pre_1 Post := by
  intro l hfl _ _ p e ha hc hk s m args below hf hA hF happ hP
  obtain ⟨hcalls, hrest, hpre⟩ := hP
  obtain ⟨-, -, -, hnamed, -, -, -, hat⟩ := (Spec.applies_iff hf).mp happ
  obtain ⟨hg, hn⟩ := and_e (Cond.before_iff.mp (show (Jvm.Cond.and given_1 narrow_1).before args s = true from hpre))
  obtain ⟨g1, g2⟩ := and_e hg
  obtain ⟨g3, g4⟩ := and_e g2
  obtain ⟨g5, g6⟩ := and_e g4
  obtain ⟨g7, g8⟩ := and_e g6
  obtain ⟨w0, w1, w2, w3, rfl⟩ : ∃ w0 w1 w2 w3 : Value, args = #[w0, w1, w2, w3] := by
    have hs : args.size = 4 := by simpa [Cond.value, given_1] using g1
    obtain ⟨L⟩ := args
    match L, hs with
    | [w0, w1, w2, w3], _ => exact ⟨w0, w1, w2, w3, rfl⟩
  have hw := fun d (hd : d ∈ tables_1) => atoms_spec (ws := Jvm.Cond.code x code maxLocals ret :: tables_1) hat d (List.mem_cons_of_mem _ hd)
  have hfit : Fit s := fun {y c} hc i hi => by
    obtain ⟨ha, rfl⟩ := Array.getElem?_eq_some_iff.mp hc
    have q := List.all_eq_true.mp ((Array.all_eq_true_iff_forall_mem.mp hF) _ (Array.getElem_mem ha)) i (List.mem_range.mpr hi)
    simpa [Array.getElem?_eq_getElem hi] using q
  obtain ⟨i0, ei0⟩ := is_v g3
  obtain rfl : w0 = (.int i0) := Option.some.inj ei0
  obtain ⟨i1, ei1⟩ := is_v g5
  obtain rfl : w1 = (.int i1) := Option.some.inj ei1
  obtain ⟨i2, ei2⟩ := is_v g7
  obtain rfl : w2 = (.int i2) := Option.some.inj ei2
  obtain ⟨i3, ei3⟩ := is_v g8
  obtain rfl : w3 = (.int i3) := Option.some.inj ei3
  obtain ⟨fr, to, hfr, hnz, hto, hk0, hpq, hq8⟩ := own_args i2 i3
  obtain ⟨n, o, h1, h2, h3, _, L, rfl, ⟨rfl, N⟩, hq⟩ := rm0 l s _ hw tables_1 i0 i1 i2 i3 fr to s.heap s.heap.size (Nat.le_refl _) hfr hnz hto hk0 hpq hq8 p e ha hc hk s m _ below hf ((Spec.applies_iff_loose hf).mp happ).1 ⟨rfl, State.Warmed39.refl s, rfl⟩ trivial
  refine ⟨n, _, h1, h2, h3, hpost _ _ _ _ _ _ ⟨Cond.after_iff.mpr rfl, Cond.after_iff.mpr (eq_i res_at (Term.int_eval (1)) (congrArg Value.int (own_one _ _ hk0 hpq hq8))), trivial⟩ ⟨hq.1, hq.2.1, (hq.2.2.sift fun y hy => Or.inr (N y hy)).mono (by decide) (by decide)⟩⟩
theorem main_1_1 : Claimed_1_1 := comes_1 fun _ _ _ _ _ _ h hF => ⟨h.1, hF⟩
theorem main_1_2 : Claimed_1_2 := comes_1 fun _ _ _ _ _ _ h hF => ⟨h.2.1, hF⟩
end Jvm.Pilot.@@N@@
namespace Jvm.Pilot.@@N@@
open Jvm Jvm.ClassFile Sem Op Lib Jvm.Free Jvm.Stand Jvm.Pilot.@@N@@.Jvm.D
/-! MADE BY PROGRAM (witnessworld.py) out of the Statement's table words and the real class files: 11 classes; the members and pool entries that the words name. The judged class is class 1, her method 2. -/
namespace start1
open Jvm.ClassFile
def u (s : String) : CpInfo := .utf8 (stringToUtf16 s)
/-- a pool by its gaps: so many unusable entries, then the entry; so many at the end -/
def gap : Nat → List CpInfo → List CpInfo
  | 0, r => r
  | n + 1, r => .unusable :: gap n r
def poolList (es : List (Nat × CpInfo)) (last : Nat) : List CpInfo := es.foldr (fun e r => gap e.1 (e.2 :: r)) (gap last [])
def pool (es : List (Nat × CpInfo)) (last : Nat) : Array CpInfo := ⟨poolList es last⟩
def fileOf (pool : Array CpInfo) (this : Nat) (attrs : Array Attribute := #[]) (ms : Array MethodInfo := #[]) (fl : Nat := 33) (sup : Nat := 0) (ifs : Array Nat := #[]) (fds : Array FieldInfo := #[]) : ClassFile where
  minorVersion := 0
  majorVersion := 65
  constantPool := pool
  accessFlags := fl
  thisClass := this
  superClass := sup
  interfaces := ifs
  fields := fds
  methods := ms
  attributes := attrs
def plain (name : String) (sup : Option ClassId) : Class where
  name := name
  kind := .ordinary
  loader := none
  accessFlags := 33
  super := sup
  interfaces := #[]
  cf := none
  fields := #[]
  methods := #[]
  instanceTypes := #[]
  staticTypes := #[]
  resolved := #[]
  callSites := []
  init := .initialized
  statics := none
  mirror := none

def pool0 : Array CpInfo := pool [(5, u "<init>"), (0, u "()V"), (1, .class_ 10), (1, u "java/lang/Object")] 113

def k0m0 : Method := { name := "<init>", desc := "()V", sig := { parameters := [], returnType := none }, accessFlags := 1, code := none }
/-- java/lang/Object -/
def k0 : Class := { plain "java/lang/Object" none with
  accessFlags := 33
  interfaces := #[]
  cf := some (fileOf pool0 8 #[] #[{ accessFlags := 1, nameIndex := 5, descriptorIndex := 6, attributes := #[] }] 33 0 #[] #[])
  fields := #[]
  methods := #[k0m0]
  instanceTypes := #[]
  staticTypes := #[]
  resolved := Array.replicate 124 none
  statics := none }

def pool1 : Array CpInfo := pool [(2, .class_ 4), (1, u "java/lang/Object"), (0, u "<init>"), (0, u "()V"), (0, .methodref 8 9), (0, .class_ 10), (0, .nameAndType 11 12), (0, u "com/example/clotwire/clotwire/link/ChecksumOfPinLaw"), (0, u "term"), (0, u "([BIII)I"), (0, .methodref 14 15), (0, .class_ 16), (0, .nameAndType 17 18), (0, u "com/example/clotwire/clotwire/link/Checksum"), (0, u "of"), (0, u "([BII)I"), (3, u "law"), (0, u "(IIII)Z")] 4

def k1m0 : Method := { name := "<init>", desc := "()V", sig := { parameters := [], returnType := none }, accessFlags := 1, code := none }
def k1c1 : Code := { maxStack := 2, maxLocals := 5, code := method_2_code, exceptionTable := #[], attributes := #[] }
def k1m1 : Method := { name := "term", desc := "([BIII)I", sig := { parameters := [(.array .byte), .int, .int, .int], returnType := some .int }, accessFlags := 10, code := some k1c1 }
def k1c2 : Code := { maxStack := 5, maxLocals := 9, code := code, exceptionTable := #[], attributes := #[] }
def k1m2 : Method := { name := "law", desc := "(IIII)Z", sig := { parameters := [.int, .int, .int, .int], returnType := some .boolean }, accessFlags := 9, code := some k1c2 }
/-- com/example/clotwire/clotwire/link/ChecksumOfPinLaw -/
def k1 : Class := { plain "com/example/clotwire/clotwire/link/ChecksumOfPinLaw" (some 0) with
  accessFlags := 49
  interfaces := #[]
  cf := some (fileOf pool1 8 #[] #[{ accessFlags := 1, nameIndex := 5, descriptorIndex := 6, attributes := #[] }, { accessFlags := 10, nameIndex := 11, descriptorIndex := 12, attributes := #[] }, { accessFlags := 9, nameIndex := 22, descriptorIndex := 23, attributes := #[] }] 49 2 #[] #[])
  fields := #[]
  methods := #[k1m0, k1m1, k1m2]
  instanceTypes := #[]
  staticTypes := #[]
  resolved := Array.replicate 28 none
  statics := none }

def pool2 : Array CpInfo := pool [(2, .class_ 4), (1, u "java/lang/Object"), (0, u "<init>"), (0, u "()V"), (0, .methodref 8 9), (0, .class_ 10), (0, .nameAndType 11 12), (0, u "java/util/Objects"), (0, u "checkFromToIndex"), (0, u "(III)I"), (0, .class_ 14), (0, u "com/example/clotwire/clotwire/link/Checksum"), (11, u "HEX_DIGITS"), (0, u "Ljava/lang/String;"), (3, u "of"), (0, u "([BII)I")] 7

def k2m0 : Method := { name := "<init>", desc := "()V", sig := { parameters := [], returnType := none }, accessFlags := 2, code := none }
def k2c1 : Code := { maxStack := 3, maxLocals := 5, code := prog_55_method_2_code, exceptionTable := #[], attributes := #[] }
def k2m1 : Method := { name := "of", desc := "([BII)I", sig := { parameters := [(.array .byte), .int, .int], returnType := some .int }, accessFlags := 9, code := some k2c1 }
/-- com/example/clotwire/clotwire/link/Checksum -/
def k2 : Class := { plain "com/example/clotwire/clotwire/link/Checksum" (some 0) with
  accessFlags := 49
  interfaces := #[]
  cf := some (fileOf pool2 13 #[] #[{ accessFlags := 2, nameIndex := 5, descriptorIndex := 6, attributes := #[] }, { accessFlags := 9, nameIndex := 31, descriptorIndex := 32, attributes := #[] }] 49 2 #[] #[{ accessFlags := 26, nameIndex := 26, descriptorIndex := 27, attributes := #[] }])
  fields := #[{ name := "HEX_DIGITS", type := (.object "java/lang/String"), accessFlags := 26, slot := 0, constantValue := 0 }]
  methods := #[k2m0, k2m1]
  instanceTypes := #[]
  staticTypes := #[(.object "java/lang/String")]
  resolved := Array.replicate 40 none
  statics := none }

def pool3 : Array CpInfo := pool [(2, .class_ 4), (1, u "java/lang/Object"), (0, u "<init>"), (0, u "()V"), (35, .class_ 44), (1, u "java/util/Objects"), (61, .class_ 108), (1, u "jdk/internal/util/Preconditions"), (2, .methodref 106 112), (0, .nameAndType 113 114), (0, u "checkFromToIndex"), (0, u "(IIILjava/util/function/BiFunction;)I"), (60, u "(III)I")] 8

def k3m0 : Method := { name := "<init>", desc := "()V", sig := { parameters := [], returnType := none }, accessFlags := 2, code := none }
def k3c1 : Code := { maxStack := 4, maxLocals := 3, code := jdk_31_method_18_code, exceptionTable := #[], attributes := #[] }
def k3m1 : Method := { name := "checkFromToIndex", desc := "(III)I", sig := { parameters := [.int, .int, .int], returnType := some .int }, accessFlags := 9, code := some k3c1 }
/-- java/util/Objects -/
def k3 : Class := { plain "java/util/Objects" (some 0) with
  accessFlags := 49
  interfaces := #[]
  cf := some (fileOf pool3 42 #[] #[{ accessFlags := 2, nameIndex := 5, descriptorIndex := 6, attributes := #[] }, { accessFlags := 9, nameIndex := 113, descriptorIndex := 175, attributes := #[] }] 49 2 #[] #[])
  fields := #[]
  methods := #[k3m0, k3m1]
  instanceTypes := #[]
  staticTypes := #[]
  resolved := Array.replicate 184 none
  statics := none }

def pool4 : Array CpInfo := pool [(2, .class_ 4), (1, u "java/lang/Object"), (0, u "<init>"), (0, u "()V"), (17, .class_ 26), (1, u "jdk/internal/util/Preconditions"), (20, u "checkFromToIndex"), (7, .class_ 56), (0, u "jdk/internal/util/Preconditions$4"), (57, .class_ 115), (0, u "jdk/internal/util/Preconditions$1"), (7, u "SIOOBE_FORMATTER"), (0, u "Ljava/util/function/BiFunction;"), (0, .class_ 126), (0, u "jdk/internal/util/Preconditions$2"), (3, u "AIOOBE_FORMATTER"), (0, .class_ 132), (0, u "jdk/internal/util/Preconditions$3"), (3, u "IOOBE_FORMATTER"), (46, u "(IIILjava/util/function/BiFunction;)I")] 10

def k4m0 : Method := { name := "<init>", desc := "()V", sig := { parameters := [], returnType := none }, accessFlags := 1, code := none }
def k4c1 : Code := { maxStack := 4, maxLocals := 4, code := jdk_41_method_12_code, exceptionTable := #[], attributes := #[] }
def k4m1 : Method := { name := "checkFromToIndex", desc := "(IIILjava/util/function/BiFunction;)I", sig := { parameters := [.int, .int, .int, (.object "java/util/function/BiFunction")], returnType := some .int }, accessFlags := 9, code := some k4c1 }
/-- jdk/internal/util/Preconditions -/
def k4 : Class := { plain "jdk/internal/util/Preconditions" (some 0) with
  accessFlags := 33
  interfaces := #[]
  cf := some (fileOf pool4 24 #[.nestMembers #[55, 131, 125, 114]] #[{ accessFlags := 1, nameIndex := 5, descriptorIndex := 6, attributes := #[] }, { accessFlags := 9, nameIndex := 47, descriptorIndex := 183, attributes := #[] }] 33 2 #[] #[{ accessFlags := 25, nameIndex := 123, descriptorIndex := 124, attributes := #[] }, { accessFlags := 25, nameIndex := 130, descriptorIndex := 124, attributes := #[] }, { accessFlags := 25, nameIndex := 136, descriptorIndex := 124, attributes := #[] }])
  fields := #[{ name := "SIOOBE_FORMATTER", type := (.object "java/util/function/BiFunction"), accessFlags := 25, slot := 0, constantValue := 0 }, { name := "AIOOBE_FORMATTER", type := (.object "java/util/function/BiFunction"), accessFlags := 25, slot := 1, constantValue := 0 }, { name := "IOOBE_FORMATTER", type := (.object "java/util/function/BiFunction"), accessFlags := 25, slot := 2, constantValue := 0 }]
  methods := #[k4m0, k4m1]
  instanceTypes := #[]
  staticTypes := #[(.object "java/util/function/BiFunction"), (.object "java/util/function/BiFunction"), (.object "java/util/function/BiFunction")]
  resolved := Array.replicate 194 none
  statics := none }

def pool5 : Array CpInfo := pool [(1, u "java/lang/Cloneable"), (0, .class_ 1), (0, u "java/lang/Object"), (0, .class_ 3)] 3

/-- java/lang/Cloneable -/
def k5 : Class := { plain "java/lang/Cloneable" (some 0) with
  accessFlags := 1537
  interfaces := #[]
  cf := some (fileOf pool5 2 #[] #[] 1537 4 #[] #[])
  fields := #[]
  methods := #[]
  instanceTypes := #[]
  staticTypes := #[]
  resolved := Array.replicate 8 none
  statics := none }

def pool6 : Array CpInfo := pool [(1, u "java/io/Serializable"), (0, .class_ 1), (0, u "java/lang/Object"), (0, .class_ 3)] 3

/-- java/io/Serializable -/
def k6 : Class := { plain "java/io/Serializable" (some 0) with
  accessFlags := 1537
  interfaces := #[]
  cf := some (fileOf pool6 2 #[] #[] 1537 4 #[] #[])
  fields := #[]
  methods := #[]
  instanceTypes := #[]
  staticTypes := #[]
  resolved := Array.replicate 8 none
  statics := none }

/-- the primitive byte -/
def k7 : Class := { plain "byte" none with kind := .primitive 'B', accessFlags := 0x411 }
/-- [B -/
def k8 : Class := { plain "[B" (some 0) with kind := .array 7 .byte, interfaces := #[5, 6], accessFlags := 1041 }

/-- the primitive int -/
def k9 : Class := { plain "int" none with kind := .primitive 'I', accessFlags := 0x411 }
/-- [I -/
def k10 : Class := { plain "[I" (some 0) with kind := .array 9 .int, interfaces := #[5, 6], accessFlags := 1041 }

def heap : Heap := #[]
def classes : Array Class := #[k0, k1, k2, k3, k4, k5, k6, k7, k8, k9, k10]
def interned : List (Array UInt16 × Addr) := []
def slotsUsed : Nat := 0
def theMethod : MethodId := ⟨1, 2⟩
def args0 : Array Value := #[.int 5, .int 6, .int 7, .int 8]
def aboutOver (below : List Frame) : State where
  vm := { classes := classes, interned := interned.toArray }
  heap := heap
  slotsUsed := slotsUsed
  threads := #[{ frames := .invoking theMethod args0 :: below }]
def below0 : List Frame := [.native { method := ⟨0, 0⟩, args := #[] }]
def about1 : State := aboutOver below0
def p0 : Program := .bare "" "" ""
def e0 : Env := launch0.env 0 0 0
theorem w_frames : about1.frames = Frame.invoking theMethod args0 :: below0 := rfl
set_option maxRecDepth 65536 in
theorem w_args : argsFit about1.vm theMethod args0 = true := by decide +kernel
set_option maxRecDepth 65536 in
theorem w_heap : heapFits about1 = true := by decide +kernel
set_option maxRecDepth 65536 in
theorem w_runnable : about1.curStatus? = some .runnable := by decide +kernel
set_option maxRecDepth 65536 in
theorem w_alone : about1.alone = true := by decide +kernel
set_option maxRecDepth 65536 in
theorem w_named : about1.methodNamed? x = some theMethod := by decide +kernel
set_option maxRecDepth 65536 in
theorem w_hears : about1.hears theMethod below0 = true := by decide +kernel
set_option maxRecDepth 65536 in
theorem w_ripe : about1.ripe theMethod args0 below0 = true := by decide +kernel
theorem w_running : about1.status = .running := rfl
set_option maxRecDepth 65536 in
theorem w_room : about1.hasRoom e0.platform room_1 = true :=
  launch0.hasRoom_least _ room_1 (by decide +kernel) (by decide +kernel) (by decide +kernel) (by decide +kernel) (by decide +kernel) (by decide +kernel)
theorem allAtoms_all (ts : List Jvm.Cond) (a : Array Jvm.Value) (st : Jvm.State) : (allAtoms ts).before a st = ts.all (fun c => c.before a st) := by
  induction ts with
  | nil => rfl
  | cons c t ih =>
    show (Jvm.Cond.and c (allAtoms t)).before a st = _
    rw [Jvm.Cond.before_and, ih, List.all_cons]
def words1 : List Jvm.Cond := Jvm.Cond.code x code maxLocals ret :: tables_1
/-- a 'code' word, met by the world's own term for the bytes: nothing is compared byte by byte -/
theorem code_word {y : MethodName} {bytes : ByteArray} {mx : Nat} {rt : Option FieldType} {a : Array Value} {s : State} {m : MethodId} {meth : Method} {c : Code} (h1 : s.methodNamed? y = some m) (h2 : s.vm.method? m = some meth) (h3 : meth.code = some c) (h4 : c.code = bytes)
    (h5 : (c.maxLocals == mx && c.exceptionTable.isEmpty && decide (c.maxStack ≤ mostOperands) && decide (meth.sig.returnType = rt) && !meth.locks && decide (parseMethodDescriptor y.desc = some meth.sig)) = true) : (Jvm.Cond.code y bytes mx rt).before a s = true := by
  simp only [Bool.and_eq_true, beq_iff_eq, Bool.not_eq_true', decide_eq_true_eq] at h5
  obtain ⟨⟨⟨⟨⟨g1, g2⟩, g3⟩, g4⟩, g5⟩, g6⟩ := h5
  simp [Cond.before, Cond.holds, Cond.value, h1, h2, h3, h4, g1, g2, g3, g4, g5, g6]
def isCode : Jvm.Cond → Bool
  | .code _ _ _ _ => true
  | _ => false
theorem all_split {L : List Jvm.Cond} {P : Jvm.Cond → Bool} (h1 : L.all (fun c => isCode c || P c) = true) (h2 : ∀ c ∈ L.filter isCode, P c = true) : L.all P = true := by
  refine List.all_eq_true.mpr fun c hc => ?_
  have h := List.all_eq_true.mp h1 c hc
  rcases Bool.eq_false_or_eq_true (isCode c) with hi | hi
  · exact h2 c (List.mem_filter.mpr ⟨hc, hi⟩)
  · simpa [hi] using h
set_option maxRecDepth 65536 in
theorem w_c0 : (Jvm.Cond.code x code maxLocals ret).before args0 about1 = true := code_word (m := ⟨1, 2⟩) (meth := k1m2) (c := k1c2) (by decide +kernel) rfl rfl rfl (by decide +kernel)
set_option maxRecDepth 65536 in
theorem w_c1 : (Jvm.Cond.code ({ cls := "com/example/clotwire/clotwire/link/ChecksumOfPinLaw", name := "term", desc := "([BIII)I" } : Jvm.MethodName) method_2_code (5 : Nat) (Option.some Jvm.ClassFile.FieldType.int)).before args0 about1 = true := code_word (m := ⟨1, 1⟩) (meth := k1m1) (c := k1c1) (by decide +kernel) rfl rfl rfl (by decide +kernel)
set_option maxRecDepth 65536 in
theorem w_c2 : (Jvm.Cond.code ({ cls := "com/example/clotwire/clotwire/link/Checksum", name := "of", desc := "([BII)I" } : Jvm.MethodName) prog_55_method_2_code (5 : Nat) (Option.some Jvm.ClassFile.FieldType.int)).before args0 about1 = true := code_word (m := ⟨2, 1⟩) (meth := k2m1) (c := k2c1) (by decide +kernel) rfl rfl rfl (by decide +kernel)
set_option maxRecDepth 65536 in
theorem w_c3 : (Jvm.Cond.code ({ cls := "java/util/Objects", name := "checkFromToIndex", desc := "(III)I" } : Jvm.MethodName) jdk_31_method_18_code (3 : Nat) (Option.some Jvm.ClassFile.FieldType.int)).before args0 about1 = true := code_word (m := ⟨3, 1⟩) (meth := k3m1) (c := k3c1) (by decide +kernel) rfl rfl rfl (by decide +kernel)
set_option maxRecDepth 65536 in
theorem w_c4 : (Jvm.Cond.code ({ cls := "jdk/internal/util/Preconditions", name := "checkFromToIndex", desc := "(IIILjava/util/function/BiFunction;)I" } : Jvm.MethodName) jdk_41_method_12_code (4 : Nat) (Option.some Jvm.ClassFile.FieldType.int)).before args0 about1 = true := code_word (m := ⟨4, 1⟩) (meth := k4m1) (c := k4c1) (by decide +kernel) rfl rfl rfl (by decide +kernel)
def codes1 : List Jvm.Cond := [Jvm.Cond.code x code maxLocals ret, Jvm.Cond.code ({ cls := "com/example/clotwire/clotwire/link/ChecksumOfPinLaw", name := "term", desc := "([BIII)I" } : Jvm.MethodName) method_2_code (5 : Nat) (Option.some Jvm.ClassFile.FieldType.int), Jvm.Cond.code ({ cls := "com/example/clotwire/clotwire/link/Checksum", name := "of", desc := "([BII)I" } : Jvm.MethodName) prog_55_method_2_code (5 : Nat) (Option.some Jvm.ClassFile.FieldType.int), Jvm.Cond.code ({ cls := "java/util/Objects", name := "checkFromToIndex", desc := "(III)I" } : Jvm.MethodName) jdk_31_method_18_code (3 : Nat) (Option.some Jvm.ClassFile.FieldType.int), Jvm.Cond.code ({ cls := "jdk/internal/util/Preconditions", name := "checkFromToIndex", desc := "(IIILjava/util/function/BiFunction;)I" } : Jvm.MethodName) jdk_41_method_12_code (4 : Nat) (Option.some Jvm.ClassFile.FieldType.int)]
set_option maxRecDepth 65536 in
theorem codes_eq : words1.filter isCode = codes1 := rfl
theorem w_codes : ∀ c ∈ words1.filter isCode, c.before args0 about1 = true := by
  rw [codes_eq]
  intro c hc
  simp only [codes1, List.mem_cons, List.not_mem_nil, or_false] at hc
  rcases hc with rfl | rfl | rfl | rfl | rfl
  · exact w_c0
  · exact w_c1
  · exact w_c2
  · exact w_c3
  · exact w_c4
set_option maxRecDepth 65536 in
theorem w_t1 : words1.all (fun c => isCode c || c.before args0 about1) = true := by decide +kernel
theorem w_tables : (allAtoms (Jvm.Cond.code x code maxLocals ret :: tables_1)).before args0 about1 = true := by
  rw [allAtoms_all]
  show words1.all (fun c => c.before args0 about1) = true
  refine all_split ?_ w_codes
  rw [w_t1]
set_option maxRecDepth 65536 in
theorem w_case : (Jvm.Cond.and given_1 narrow_1).before args0 about1 = true := by decide +kernel
theorem w_applies : (headSpec (Jvm.Cond.code x code maxLocals ret :: tables_1) room_1).applies x e0.platform about1 = true :=
  (Spec.applies_iff w_frames).mpr ⟨w_running, w_runnable, w_alone, w_named, w_hears, w_ripe, w_room, w_tables⟩
theorem atStart : AtStart classFile x code maxLocals ret World_1 tables_1 room_1 Calls_1 rest_1 Pre_1 launch0 p0 e0 about1 theMethod args0 below0 :=
  ⟨lists_1, trivial, launch0.admits_env _ _ _, launch0.least_env, fairChoices_fair.cas, fairChoices_fair.clock, w_frames, w_args, w_heap, w_applies, trivial, trivial, w_case⟩
end start1
theorem witness_1 : WitnessClaimed_1 := ⟨start1.p0, start1.e0, start1.about1, start1.theMethod, start1.args0, start1.below0, start1.atStart⟩
end Jvm.Pilot.@@N@@
