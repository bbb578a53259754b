import JvmDerived
import JvmDerived.Pilot.@@N@@Statement
import JvmDerived.Pilot.@@N@@Code
set_option linter.unusedVariables false
set_option linter.unusedSimpArgs false
@@BLOCK:NumsL.lean.txt@@
namespace Jvm.RoadKit
open Sem ClassFile Op Lib Jvm.Stand Jvm.Free Jvm.LawKit
section New
variable {p : Program} {l : Launch} {e : Env} {R : Room} {s : State} {m : MethodId} {args : Array Value} {below : List Frame} {meth : Method} {c : Code} {T : State} {locs : List Loc} {cells slots : Nat}
theorem retI (X : Stand p l e R s m args below meth c T locs cells slots) (hx : p.tables.exec = Jvm.exec) {pc : Nat} {Ls : Array Slot} {z : Int32} {rest : List Value} (hret : meth.sig.returnType = some .int) (hd : decode c.code pc = .ok (.ireturn, 1)) {fs : List Frame}
    (hl : ∀ (f : JFrame) (acts : List Action), f.method = m → f.locked = none → f.entered = [] → (doReturn e (T.setTop f) acts (some (.int z))).1 = T.setFrames fs) : Steps p.tables e below (T.setTop (mkF m pc Ls (.int z :: rest))) (T.setFrames fs) := by
  have hm' : T.vm.method? m = some meth := X.method'
  have hn : narrow .int (.int z) = .int z := rfl
  show Steps p.tables e below (T.setTop { method := m, pc := pc, locals := Ls, stack := _ :: rest, locked := none }) _
  jvm_step X.here [X.here.top, hx, hd, hm', hret, hn]
  first | (intro acts; rw [hl _ acts rfl rfl rfl]) | rw [hl _ _ rfl rfl rfl]
  exact Steps.refl _
/-- the run from U comes to an end of which Q speaks -/
def Gl (tb : Tables) (e : Env) (below : List Frame) (Q : State → Outcome → Prop) (U : State) : Prop := ∃ s₂ o, Steps tb e below U s₂ ∧ s₂.status = .running ∧ Ended s₂ below o ∧ Q s₂ o
theorem Gl.out {tb : Tables} {Q : State → Outcome → Prop} {U : State} (h : Gl tb e below Q U) : ∃ s₂ o, Steps tb e below U s₂ ∧ s₂.status = .running ∧ Ended s₂ below o ∧ Q s₂ o := h
theorem Gl.mk {tb : Tables} {Q : State → Outcome → Prop} {U : State} (h : ∃ s₂ o, Steps tb e below U s₂ ∧ s₂.status = .running ∧ Ended s₂ below o ∧ Q s₂ o) : Gl tb e below Q U := h
theorem Gl.go {tb : Tables} {Q : State → Outcome → Prop} {U V : State} (g : Gl tb e below Q V) (st : ∀ t, Steps tb e below V t → Steps tb e below U t) : Gl tb e below Q U := by
  obtain ⟨s₂, o, h1, h2⟩ := g
  exact ⟨s₂, o, st _ h1, h2⟩
theorem Gl.tr {tb : Tables} {Q : State → Outcome → Prop} {U V : State} (g : Gl tb e below Q V) (st : Steps tb e below U V) : Gl tb e below Q U := g.go fun _ k => st.trans k
/-- what a body leaves that writes and makes nothing: it returns w, the heap as it was -/
def PQ (w : Option Value) (h0 : Heap) (v : Option Value) (h : Heap) (L : List Loc) : Prop := v = w ∧ L = [] ∧ h = h0
/-- an array of ints or bytes: its length N and what it holds at j -/
def BA (Z : State) (h : Heap) (a : Addr) (ty : FieldType) (N : Int32) (f : Int32 → Int32) : Prop := ∃ cl : Cell, Arr Z h a cl ty ∧ cl.slots.size = N.toNatClampNeg ∧ ¬ N < 0 ∧ ∀ j : Int32, ¬ j < 0 → j < N → cl.slots[j.toNatClampNeg]? = some (.int (f j))
theorem BA.rdB {Z : State} {h : Heap} {a : Addr} {N j : Int32} {f : Int32 → Int32} (B : BA Z h a .byte N f) (X : Stand p l e R s m args below meth c T locs cells slots) (hx : p.tables.exec = Jvm.exec) (hZ : Z.Warmed39 s.vm) (eT : T.heap = h) (h1 : ¬ j < 0) (h2 : j < N) {g : JFrame} (hg : g.method = m) {rest : List Value} (hs : g.stack = .int j :: .ref a :: rest) (hd : decode c.code g.pc = .ok (.baload, 1)) :
    ∀ target, Steps p.tables e below (T.setTop { g with pc := g.pc + 1, stack := .int (f j) :: rest }) target → Steps p.tables e below (T.setTop g) target := by
  obtain ⟨cl, A, S, N0, H⟩ := B
  intro target k
  exact X.baloadBytes hx (j := j) (v := .int (f j)) (by rw [eT]; exact A.1) (State.isArrayOf_alike hZ.alike A.2.1) A.2.2 (inb_of S ⟨h1, h2⟩) (H j h1 h2) (g := g) hg hs hd _ k
theorem BA.rdI {Z : State} {h : Heap} {a : Addr} {N j : Int32} {f : Int32 → Int32} (B : BA Z h a .int N f) (X : Stand p l e R s m args below meth c T locs cells slots) (hx : p.tables.exec = Jvm.exec) (hZ : Z.Warmed39 s.vm) (eT : T.heap = h) (h1 : ¬ j < 0) (h2 : j < N) {g : JFrame} (hg : g.method = m) {rest : List Value} (hs : g.stack = .int j :: .ref a :: rest) (hd : decode c.code g.pc = .ok (.iaload, 1)) :
    ∀ target, Steps p.tables e below (T.setTop { g with pc := g.pc + 1, stack := .int (f j) :: rest }) target → Steps p.tables e below (T.setTop g) target := by
  obtain ⟨cl, A, S, N0, H⟩ := B
  intro target k
  exact X.iaload hx (j := j) (v := .int (f j)) (by rw [eT]; exact A.1) (State.isArrayOf_alike hZ.alike A.2.1) A.2.2 (inb_of S ⟨h1, h2⟩) (H j h1 h2) (g := g) hg hs hd _ k
theorem BA.len {Z : State} {h : Heap} {a : Addr} {N : Int32} {ty : FieldType} {f : Int32 → Int32} (B : BA Z h a ty N f) (X : Stand p l e R s m args below meth c T locs cells slots) (hx : p.tables.exec = Jvm.exec) (hZ : Z.Warmed39 s.vm) (eT : T.heap = h) {g : JFrame} (hg : g.method = m) {rest : List Value} (hs : g.stack = .ref a :: rest) (hd : decode c.code g.pc = .ok (.arraylength, 1)) :
    ∀ target, Steps p.tables e below (T.setTop { g with pc := g.pc + 1, stack := .int N :: rest }) target → Steps p.tables e below (T.setTop g) target := by
  obtain ⟨cl, A, S, N0, H⟩ := B
  intro target k
  refine X.arraylength hx (by rw [eT]; exact A.1) (State.isArrayOf_alike hZ.alike A.2.1) (g := g) hg hs hd _ ?_
  rw [len_of S N0]
  exact k
theorem Arv.rdR {Z : State} {h : Heap} {a : Addr} {k : ClassId} {N j : Int32} {ty : FieldType} {vs : List Value} {d v : Value} (V : Arv Z h a k ty N vs d) (hty : ty.isReference = true) (X : Stand p l e R s m args below meth c T locs cells slots) (hx : p.tables.exec = Jvm.exec) (hZ : Z.Warmed39 s.vm) (eT : T.heap = h) (h1 : ¬ j < 0) (h2 : j < N) (hv : vs.getD j.toNatClampNeg d = v) {g : JFrame} (hg : g.method = m) {rest : List Value} (hs : g.stack = .int j :: .ref a :: rest) (hd : decode c.code g.pc = .ok (.aaload, 1)) :
    ∀ target, Steps p.tables e below (T.setTop { g with pc := g.pc + 1, stack := v :: rest }) target → Steps p.tables e below (T.setTop g) target := by
  obtain ⟨cl, A, -, S, N0, H, -⟩ := V
  intro target k
  exact X.aaload hx (j := j) (v := v) (by rw [eT]; exact A.1) (State.isArrayOf_alike hZ.alike A.2.1) hty A.2.2 (inb_of S ⟨h1, h2⟩) (H.at (inb_of S ⟨h1, h2⟩) hv) (g := g) hg hs hd _ k
theorem BA.ext {Z : State} {h h' : Heap} {a : Addr} {N : Int32} {ty : FieldType} {f : Int32 → Int32} (B : BA Z h a ty N f) (E : Ext h h') : BA Z h' a ty N f := by
  obtain ⟨cl, A, r⟩ := B; exact ⟨cl, A.ext E, r⟩
theorem BA.other {Z : State} {h h' : Heap} {a b : Addr} {N : Int32} {ty : FieldType} {f : Int32 → Int32} {sl : Nat} {v : Value} (B : BA Z h b ty N f) (W : Wr h h' a sl v) (q : b ≠ a) : BA Z h' b ty N f := by
  obtain ⟨cl, A, r⟩ := B; exact ⟨cl, A.other W q, r⟩
theorem BA.lt {Z : State} {h : Heap} {a : Addr} {N : Int32} {ty : FieldType} {f : Int32 → Int32} (B : BA Z h a ty N f) : a < h.size := by
  obtain ⟨cl, A, r⟩ := B; exact A.lt
/-- an array of references that aren't null -/
def RA (Z : State) (h : Heap) (a : Addr) (ty : FieldType) (N : Int32) (A : Nat → Addr) : Prop := ∃ cl : Cell, Arr Z h a cl ty ∧ cl.slots.size = N.toNatClampNeg ∧ ¬ N < 0 ∧ ∀ j : Nat, j < cl.slots.size → cl.slots[j]? = some (.ref (A j))
theorem RA.rd {Z : State} {h : Heap} {a : Addr} {N j : Int32} {ty : FieldType} {A : Nat → Addr} (B : RA Z h a ty N A) (hty : ty.isReference = true) (X : Stand p l e R s m args below meth c T locs cells slots) (hx : p.tables.exec = Jvm.exec) (hZ : Z.Warmed39 s.vm) (eT : T.heap = h) (h1 : ¬ j < 0) (h2 : j < N) {g : JFrame} (hg : g.method = m) {rest : List Value} (hs : g.stack = .int j :: .ref a :: rest) (hd : decode c.code g.pc = .ok (.aaload, 1)) :
    ∀ target, Steps p.tables e below (T.setTop { g with pc := g.pc + 1, stack := .ref (A j.toNatClampNeg) :: rest }) target → Steps p.tables e below (T.setTop g) target := by
  obtain ⟨cl, Ar, S, N0, H⟩ := B
  intro target k
  have hin := inb_of S ⟨h1, h2⟩
  exact X.aaload hx (j := j) (v := .ref (A j.toNatClampNeg)) (by rw [eT]; exact Ar.1) (State.isArrayOf_alike hZ.alike Ar.2.1) hty Ar.2.2 hin (H _ (Nat.lt_of_not_le fun q => hin (Or.inr q))) (g := g) hg hs hd _ k
theorem RA.len {Z : State} {h : Heap} {a : Addr} {N : Int32} {ty : FieldType} {A : Nat → Addr} (B : RA Z h a ty N A) (X : Stand p l e R s m args below meth c T locs cells slots) (hx : p.tables.exec = Jvm.exec) (hZ : Z.Warmed39 s.vm) (eT : T.heap = h) {g : JFrame} (hg : g.method = m) {rest : List Value} (hs : g.stack = .ref a :: rest) (hd : decode c.code g.pc = .ok (.arraylength, 1)) :
    ∀ target, Steps p.tables e below (T.setTop { g with pc := g.pc + 1, stack := .int N :: rest }) target → Steps p.tables e below (T.setTop g) target := by
  obtain ⟨cl, Ar, S, N0, H⟩ := B
  intro target k
  refine X.arraylength hx (by rw [eT]; exact Ar.1) (State.isArrayOf_alike hZ.alike Ar.2.1) (g := g) hg hs hd _ ?_
  rw [len_of S N0]
  exact k
theorem RA.ext {Z : State} {h h' : Heap} {a : Addr} {N : Int32} {ty : FieldType} {A : Nat → Addr} (B : RA Z h a ty N A) (E : Ext h h') : RA Z h' a ty N A := by
  obtain ⟨cl, Ar, r⟩ := B; exact ⟨cl, Ar.ext E, r⟩
theorem RA.lt {Z : State} {h : Heap} {a : Addr} {N : Int32} {ty : FieldType} {A : Nat → Addr} (B : RA Z h a ty N A) : a < h.size := by
  obtain ⟨cl, Ar, r⟩ := B; exact Ar.lt
/-- the list of an array's values, read as a function -/
def nth (xs : List Int32) (j : Int32) : Int32 := xs.getD j.toNatClampNeg 0
theorem BA.of {Z : State} {h : Heap} {a : Addr} {k : ClassId} {N : Int32} {ty : FieldType} {d : Value} (xs : List Int32) (V : Arv Z h a k ty N (xs.map Value.int) d) (hl : N.toNatClampNeg ≤ xs.length) : BA Z h a ty N (nth xs) := by
  obtain ⟨cl, A, -, S, N0, H, -⟩ := V
  refine ⟨cl, A, S, N0, fun j h1 h2 => ?_⟩
  have h3 : j.toNatClampNeg < N.toNatClampNeg := by
    rw [Int32.lt_iff_toInt_lt] at h1 h2
    have e0 : (0 : Int32).toInt = 0 := rfl
    simp only [Int32.toNatClampNeg]; omega
  rw [H _ (by omega)]
  have h4 : j.toNatClampNeg < xs.length := by omega
  simp [nth, List.getD_eq_getElem?_getD, h4]
theorem RA.keep {Z : State} {h h' : Heap} {a : Addr} {N : Int32} {ty : FieldType} {A : Nat → Addr} {ws : List Addr} (B : RA Z h a ty N A) (K : Keep h h' ws) (q : a ∉ ws) : RA Z h' a ty N A := by
  obtain ⟨cl, Ar, r⟩ := B; exact ⟨cl, ⟨K.2.1 a cl Ar.1 q, Ar.2⟩, r⟩
theorem RA.other {Z : State} {h h' : Heap} {a b : Addr} {N : Int32} {ty : FieldType} {A : Nat → Addr} {sl : Nat} {v : Value} (B : RA Z h b ty N A) (W : Wr h h' a sl v) (q : b ≠ a) : RA Z h' b ty N A := B.keep (Keep.of_wr W) (fun hm => q (List.mem_singleton.mp hm))
theorem RA.of {Z : State} {h : Heap} {a : Addr} {k : ClassId} {N : Int32} {ty : FieldType} {vs : List Value} {d : Value} {A : Nat → Addr} (V : Arv Z h a k ty N vs d) (n : Nat) (hn : N.toNatClampNeg = n) (hA : ∀ j, j < n → vs.getD j d = .ref (A j)) : RA Z h a ty N A := by
  obtain ⟨cl, Ar, -, S, N0, H, -⟩ := V
  exact ⟨cl, Ar, S, N0, fun j hj => by rw [H j hj, hA j (by omega)]⟩
/-- a String of one sign c below 128 -/
def StrIs (Z : State) (h : Heap) (a : Addr) (c : Int32) : Prop := Exa Z h a "java/lang/String" ∧ Fld Z h a "java/lang/String" "coder" "B" (.int 0) ∧ ∃ b, Fld Z h a "java/lang/String" "value" "[B" (.ref b) ∧ BA Z h b .byte 1 (fun _ => c)
theorem StrIs.ext {Z : State} {h h' : Heap} {a : Addr} {c : Int32} (F : StrIs Z h a c) (E : Ext h h') : StrIs Z h' a c := by
  obtain ⟨h1, h2, b, h3, h4⟩ := F; exact ⟨h1.ext E, h2.ext E, b, h3.ext E, h4.ext E⟩
theorem StrIs.ne {Z : State} {h : Heap} {a b : Addr} {c d : Int32} (F : StrIs Z h a c) (G : StrIs Z h b d) (q : c ≠ d) : a ≠ b := fun e => by
  subst e
  obtain ⟨-, -, v, ⟨c1, cf1, k1, i1, f1, x1, x2, x3, x4, x5, x6, x7⟩, cl, A1, S1, N1, H1⟩ := F
  obtain ⟨-, -, w, ⟨c2, cf2, k2, i2, f2, y1, y2, y3, y4, y5, y6, y7⟩, cl', A2, S2, N2, H2⟩ := G
  cases x1.symm.trans y1
  cases x2.symm.trans y2
  cases x7.symm.trans y7
  cases A1.1.symm.trans A2.1
  have e := (H1 0 (by decide) (by decide)).symm.trans (H2 0 (by decide) (by decide))
  cases e; exact q rfl
end New
end Jvm.RoadKit
namespace Jvm.Pilot.@@N@@
open Jvm Jvm.ClassFile Sem Op Lib Jvm.Free Jvm.Stand Jvm.LawKit Jvm.RoadKit Bundle Jvm.Pilot.@@N@@.Jvm.D
theorem own_eqv {args : Array Value} {first s : State} {o : Option Outcome} {idx : List Nat} {a b : Term} {y : Value} (h : (Cond.eq a b).value args first o s idx = some true) (hb : b.eval args first o idx s = some y) (hy : y.isRef = true ∨ ∃ z, y = .int z) : a.eval args first o idx s = some y := by
  cases ha : a.eval args first o idx s with
  | none => simp [Cond.value, ha] at h
  | some x => rcases hy with hy | ⟨z, rfl⟩ <;> cases x <;> (try cases y) <;> simp_all [Cond.value, Value.isRef]
theorem own_ref {v : Value} (h : v.isRef = true) : v = .null ∨ ∃ a, v = .ref a := ref_cases h
theorem own_nr (a : Addr) : ¬ (Value.ref a) = .null := nofun
theorem iv_lt {x a : Int32} {k : Int} (hk : a.toInt = k) (h : x < a) : x.toInt < k := hk ▸ Int32.lt_iff_toInt_lt.mp h
theorem iv_nlt {x a : Int32} {k : Int} (hk : a.toInt = k) (h : ¬ x < a) : k ≤ x.toInt := by rw [Int32.lt_iff_toInt_lt, hk] at h; omega
theorem iv_gt {x a : Int32} {k : Int} (hk : a.toInt = k) (h : a < x) : k < x.toInt := hk ▸ Int32.lt_iff_toInt_lt.mp h
theorem iv_ngt {x a : Int32} {k : Int} (hk : a.toInt = k) (h : ¬ a < x) : x.toInt ≤ k := by rw [Int32.lt_iff_toInt_lt, hk] at h; omega
theorem iv_eq {x a : Int32} {k : Int} (hk : a.toInt = k) (h : x = a) : x.toInt = k := h ▸ hk
theorem iv_ne {x a : Int32} {k : Int} (hk : a.toInt = k) (h : ¬ x = a) : x.toInt ≠ k := fun q => h (Int32.toInt_inj.mp (q.trans hk.symm))
theorem iv_lt' {x a : Int32} {k : Int} (hk : a.toInt = k) (h : x.toInt < k) : x < a := Int32.lt_iff_toInt_lt.mpr (hk ▸ h)
theorem iv_nlt' {x a : Int32} {k : Int} (hk : a.toInt = k) (h : k ≤ x.toInt) : ¬ x < a := by rw [Int32.lt_iff_toInt_lt, hk]; omega
theorem iv_gt' {x a : Int32} {k : Int} (hk : a.toInt = k) (h : k < x.toInt) : a < x := Int32.lt_iff_toInt_lt.mpr (hk ▸ h)
theorem iv_ngt' {x a : Int32} {k : Int} (hk : a.toInt = k) (h : x.toInt ≤ k) : ¬ a < x := by rw [Int32.lt_iff_toInt_lt, hk]; omega
theorem iv_eq' {x a : Int32} {k : Int} (hk : a.toInt = k) (h : x.toInt = k) : x = a := Int32.toInt_inj.mp (h.trans hk.symm)
theorem iv_neq' {x a : Int32} {k : Int} (hk : a.toInt = k) (h : x.toInt ≠ k) : ¬ x = a := fun q => h (q ▸ hk)
theorem own_succ {x : Int32} (h : x.toInt < 2147483647) : (x + 1).toInt = x.toInt + 1 := by
  have a := x.le_toInt
  exact Jvm.Kit.i32_add (by show -2 ^ 31 ≤ x.toInt + 1; omega) (by show x.toInt + 1 < 2 ^ 31; omega)
theorem own_len {u v : Int32} (h0 : 0 ≤ u.toInt) (h : u.toInt ≤ v.toInt) : u.toInt + ((v.toInt - u.toInt).toNat : Int) = v.toInt ∨ ((v.toInt - u.toInt).toNat = 0 ∧ ¬ u < v) := by
  left; omega
theorem own_nat {x : Int32} (h : 0 ≤ x.toInt) : x = Int32.ofNat x.toInt.toNat := by
  apply Int32.toInt_inj.mp
  have h2 := x.toInt_lt
  rw [Int32.toInt_ofNat_of_lt (by omega)]
  omega
theorem own_rem (x b : Int32) (hb : 0 < b.toInt) (k : Nat) (hk : b.toInt = k) : ∃ n : Nat, n < k ∧ (x &&& (2147483647 : Int32)) % b = Int32.ofNat n := by
  have h0 : (x &&& (2147483647 : Int32)).toInt = x.toInt % 2 ^ 31 := Jvm.Kit.i32_mask x 2147483647 (k := 31) (by decide) (by decide)
  have h3 : 0 ≤ (x &&& (2147483647 : Int32)).toInt := by omega
  have e : ((x &&& (2147483647 : Int32)) % b).toInt = (x &&& (2147483647 : Int32)).toInt % b.toInt := by
    rw [Int32.toInt_mod, Int.tmod_eq_emod_of_nonneg h3]
  have h1 : 0 ≤ ((x &&& (2147483647 : Int32)) % b).toInt := by rw [e]; exact Int.emod_nonneg _ (by omega)
  have h2 : ((x &&& (2147483647 : Int32)) % b).toInt < b.toInt := by rw [e]; exact Int.emod_lt_of_pos _ hb
  exact ⟨_, by omega, own_nat h1⟩
theorem own_selp {Z s : State} {a0 : Array Value} {y : MethodName} {n : Nat} (hZ : Z.Warmed39 s.vm) (wi : (Cond.instantiable y.cls n).before a0 Z = true) (hp : s.PrivateAt y) (wm : (Cond.instanceMethod y).before a0 Z = true) {args : Array Value} (hy : y.cls ≠ "java/lang/invoke/MethodHandle" ∧ y.cls ≠ "java/lang/invoke/VarHandle" := by decide) : (Cond.selects y.cls y y).before args s = true := by
  obtain ⟨c, k, h1, h2, h3, h4, -⟩ := Cond.instantiable_spec (mvT (args := args) hZ wi)
  exact Jvm.Stand.selects_self_of_private h1 h2 (Bool.or_eq_false_iff.mp h4).1 hp (mvT hZ wm) hy
theorem own_nfo {s : State} {args : Array Value} {C : String} {x y z : MethodName} (hsel : (Cond.selects C x z).before args s = true) (hz : z.cls = y.cls) : NotFace s y := fun r0 h0 => by
  obtain ⟨c2, r2, m2, q1, q2, q3, q4, kP, hkP, hkPi⟩ := Cond.selects_spec hsel
  have e1 := findClass_of_methodNamed q3
  have e2 := findClass_of_methodNamed h0
  rw [hz] at e1
  have e3 : m2.cls = r0.cls := Option.some.inj (e1.symm.trans e2)
  exact ⟨kP, e3 ▸ hkP, hkPi⟩
theorem d18_0 : decode jdk_43_method_13_code 0 = .ok (.aload_n 0, 1) := by decide +kernel
theorem d18_1 : decode jdk_43_method_13_code 1 = .ok (.arraylength, 1) := by decide +kernel
theorem d18_2 : decode jdk_43_method_13_code 2 = .ok (.aload_n 1, 1) := by decide +kernel
theorem d18_3 : decode jdk_43_method_13_code 3 = .ok (.arraylength, 1) := by decide +kernel
theorem d18_4 : decode jdk_43_method_13_code 4 = .ok (.if_icmp .ne 30, 3) := by decide +kernel
theorem d18_7 : decode jdk_43_method_13_code 7 = .ok (.iconst 0, 1) := by decide +kernel
theorem d18_8 : decode jdk_43_method_13_code 8 = .ok (.istore_n 2, 1) := by decide +kernel
theorem d18_9 : decode jdk_43_method_13_code 9 = .ok (.iload_n 2, 1) := by decide +kernel
theorem d18_10 : decode jdk_43_method_13_code 10 = .ok (.aload_n 0, 1) := by decide +kernel
theorem d18_11 : decode jdk_43_method_13_code 11 = .ok (.arraylength, 1) := by decide +kernel
theorem d18_12 : decode jdk_43_method_13_code 12 = .ok (.if_icmp .ge 20, 3) := by decide +kernel
theorem d18_15 : decode jdk_43_method_13_code 15 = .ok (.aload_n 0, 1) := by decide +kernel
theorem d18_16 : decode jdk_43_method_13_code 16 = .ok (.iload_n 2, 1) := by decide +kernel
theorem d18_17 : decode jdk_43_method_13_code 17 = .ok (.baload, 1) := by decide +kernel
theorem d18_18 : decode jdk_43_method_13_code 18 = .ok (.aload_n 1, 1) := by decide +kernel
theorem d18_19 : decode jdk_43_method_13_code 19 = .ok (.iload_n 2, 1) := by decide +kernel
theorem d18_20 : decode jdk_43_method_13_code 20 = .ok (.baload, 1) := by decide +kernel
theorem d18_21 : decode jdk_43_method_13_code 21 = .ok (.if_icmp .eq 5, 3) := by decide +kernel
theorem d18_24 : decode jdk_43_method_13_code 24 = .ok (.iconst 0, 1) := by decide +kernel
theorem d18_25 : decode jdk_43_method_13_code 25 = .ok (.ireturn, 1) := by decide +kernel
theorem d18_26 : decode jdk_43_method_13_code 26 = .ok (.iinc 2 1, 3) := by decide +kernel
theorem d18_29 : decode jdk_43_method_13_code 29 = .ok (.goto (-20), 3) := by decide +kernel
theorem d18_32 : decode jdk_43_method_13_code 32 = .ok (.iconst 1, 1) := by decide +kernel
theorem d18_33 : decode jdk_43_method_13_code 33 = .ok (.ireturn, 1) := by decide +kernel
theorem d18_34 : decode jdk_43_method_13_code 34 = .ok (.iconst 0, 1) := by decide +kernel
theorem d18_35 : decode jdk_43_method_13_code 35 = .ok (.ireturn, 1) := by decide +kernel
theorem pn_18 : plainName "java/lang/StringLatin1" = true := by first | (simp [plainName, overriddenIn]; done) | decide +kernel
def f_leq (cx cy : Int32) : Int32 := (if cx = cy then (1 : Int32) else (0 : Int32))
theorem ef_rm18 (m : MethodId) (x0 : Addr) (x1 : Addr) : entryFrame m #[(.ref x0), (.ref x1)] 3 = mkF m 0 #[.val (.ref x0), .val (.ref x1), .unset] [] := by first | (simp [entryFrame, mkF, argsToLocals, Value.category]; done) | rfl
set_option maxRecDepth 65536 in
set_option maxHeartbeats 40000000 in
theorem rm18 (l : Launch) (Z : State) (a0 : Array Value) (hw : ∀ d ∈ tables_1, d.before a0 Z = true) (ws : List Jvm.Cond) (xa : Addr) (ya : Addr) (cx cy : Int32) (h0 : Heap) (hX : BA Z h0 xa .byte (1 : Int32) (fun _ => cx)) (hY : BA Z h0 ya .byte (1 : Int32) (fun _ => cy)) :
    MetFree l (⟨"java/lang/StringLatin1", "equals", "([B[B)Z"⟩ : MethodName) (head1 (Jvm.Cond.code (⟨"java/lang/StringLatin1", "equals", "([B[B)Z"⟩ : MethodName) jdk_43_method_13_code 3 (some .boolean) :: ws) ({ frames := 0, cells := 0, slots := 0, locals := 0 } : Room)) (fun aQ U => aQ = #[(.ref xa), (.ref ya)] ∧ Z.Warmed39 U.vm ∧ U.heap = h0) (fun _ _ _ _ _ => True) (fun _ U o U' => ∃ vQ LQ, o = .returned vQ ∧ PQ (some (.int (f_leq cx cy))) h0 vQ U'.heap LQ ∧ FrameEnd U o U' LQ ({ frames := 0, cells := 0, slots := 0, locals := 0 } : Room).cells ({ frames := 0, cells := 0, slots := 0, locals := 0 } : Room).slots) := by
  refine MetFree.of_bodySF (plainFor_of_name pn_18) hisR ?_
  intro p e s m args below meth c s₁ Bd hml0 hP hK
  obtain ⟨rfl, hZ, hh⟩ := hP
  have hx := Bd.exec
  have hby := Bd.bytes
  have hml : c.maxLocals = 3 := hml0
  have hown : s.vm.findClass "java/lang/StringLatin1" = some m.cls := findClass_of_methodNamed Bd.named
  have hnm := (name_of_methodNamed Bd.named Bd.method).1
  have X0 : Stand p l e ({ frames := 0, cells := 0, slots := 0, locals := 0 } : Room) s m #[(.ref xa), (.ref ya)] below meth c s₁ [] 0 0 := Stand.of_body Bd
  have e0 : s₁.heap = h0 := by rw [← hh, Bd.state]; rfl
  refine Gl.out ?_
  refine Gl.go ?_ (fun t k => castTop (ef_rm18 m xa ya) k)
  show Gl _ _ _ _ (s₁.setTop (mkF m 0 _ []))
  refine Gl.go ?_ (fun t k => XS.aloadN X0.here hx rfl (hb hby d18_0) rfl rfl k)
  show Gl _ _ _ _ (s₁.setTop (mkF m 1 #[.val (.ref xa), .val (.ref ya), .unset] [(.ref xa)]))
  refine Gl.go ?_ (BA.len hX X0 hx hZ e0 (g := (mkF m 1 #[.val (.ref xa), .val (.ref ya), .unset] [(.ref xa)])) rfl rfl (hb hby d18_1))
  show Gl _ _ _ _ (s₁.setTop (mkF m 2 _ [(.int (1 : Int32))]))
  refine Gl.go ?_ (fun t k => XS.aloadN X0.here hx rfl (hb hby d18_2) rfl rfl k)
  show Gl _ _ _ _ (s₁.setTop (mkF m 3 #[.val (.ref xa), .val (.ref ya), .unset] [(.ref ya), (.int (1 : Int32))]))
  refine Gl.go ?_ (BA.len hY X0 hx hZ e0 (g := (mkF m 3 #[.val (.ref xa), .val (.ref ya), .unset] [(.ref ya), (.int (1 : Int32))])) rfl rfl (hb hby d18_3))
  show Gl _ _ _ _ (s₁.setTop (mkF m 4 _ [(.int (1 : Int32)), (.int (1 : Int32))]))
  refine Gl.go ?_ (fun t k => XS.icmpNo X0.here hx rfl (hb hby d18_4) rfl (teq (by decide : (1 : Int32) = (1 : Int32))).2 k)
  show Gl _ _ _ _ (s₁.setTop (mkF m 7 _ []))
  refine Gl.go ?_ (fun t k => XS.iconst X0.here hx rfl (hb hby d18_7) k)
  show Gl _ _ _ _ (s₁.setTop (mkF m 8 #[.val (.ref xa), .val (.ref ya), .unset] [(.int (0 : Int32))]))
  refine Gl.go ?_ (fun t k => XS.istoreN X0.here hx rfl (hb hby d18_8) rfl (l' := #[.val (.ref xa), .val (.ref ya), .val (.int (0 : Int32))]) rfl k)
  show Gl _ _ _ _ (s₁.setTop (mkF m 9 _ []))
  refine Gl.go ?_ (fun t k => XS.iloadN X0.here hx rfl (hb hby d18_9) rfl k)
  show Gl _ _ _ _ (s₁.setTop (mkF m 10 _ [(.int (0 : Int32))]))
  refine Gl.go ?_ (fun t k => XS.aloadN X0.here hx rfl (hb hby d18_10) rfl rfl k)
  show Gl _ _ _ _ (s₁.setTop (mkF m 11 #[.val (.ref xa), .val (.ref ya), .val (.int (0 : Int32))] [(.ref xa), (.int (0 : Int32))]))
  refine Gl.go ?_ (BA.len hX X0 hx hZ e0 (g := (mkF m 11 #[.val (.ref xa), .val (.ref ya), .val (.int (0 : Int32))] [(.ref xa), (.int (0 : Int32))])) rfl rfl (hb hby d18_11))
  show Gl _ _ _ _ (s₁.setTop (mkF m 12 _ [(.int (1 : Int32)), (.int (0 : Int32))]))
  refine Gl.go ?_ (fun t k => XS.icmpNo X0.here hx rfl (hb hby d18_12) rfl (tlt (by decide : (0 : Int32) < (1 : Int32))).2.1 k)
  show Gl _ _ _ _ (s₁.setTop (mkF m 15 _ []))
  refine Gl.go ?_ (fun t k => XS.aloadN X0.here hx rfl (hb hby d18_15) rfl rfl k)
  show Gl _ _ _ _ (s₁.setTop (mkF m 16 _ [(.ref xa)]))
  refine Gl.go ?_ (fun t k => XS.iloadN X0.here hx rfl (hb hby d18_16) rfl k)
  show Gl _ _ _ _ (s₁.setTop (mkF m 17 #[.val (.ref xa), .val (.ref ya), .val (.int (0 : Int32))] [(.int (0 : Int32)), (.ref xa)]))
  refine Gl.go ?_ (BA.rdB hX X0 hx hZ e0 (by decide) (by decide) (g := (mkF m 17 #[.val (.ref xa), .val (.ref ya), .val (.int (0 : Int32))] [(.int (0 : Int32)), (.ref xa)])) rfl rfl (hb hby d18_17))
  show Gl _ _ _ _ (s₁.setTop (mkF m 18 _ [(.int cx)]))
  refine Gl.go ?_ (fun t k => XS.aloadN X0.here hx rfl (hb hby d18_18) rfl rfl k)
  show Gl _ _ _ _ (s₁.setTop (mkF m 19 _ [(.ref ya), (.int cx)]))
  refine Gl.go ?_ (fun t k => XS.iloadN X0.here hx rfl (hb hby d18_19) rfl k)
  show Gl _ _ _ _ (s₁.setTop (mkF m 20 #[.val (.ref xa), .val (.ref ya), .val (.int (0 : Int32))] [(.int (0 : Int32)), (.ref ya), (.int cx)]))
  refine Gl.go ?_ (BA.rdB hY X0 hx hZ e0 (by decide) (by decide) (g := (mkF m 20 #[.val (.ref xa), .val (.ref ya), .val (.int (0 : Int32))] [(.int (0 : Int32)), (.ref ya), (.int cx)])) rfl rfl (hb hby d18_20))
  show Gl _ _ _ _ (s₁.setTop (mkF m 21 _ [(.int cy), (.int cx)]))
  by_cases hc1 : cx = cy
  · refine Gl.go ?_ (fun t k => XS.icmpYes X0.here hx rfl (pc0 := 21) (pc' := 26) rfl (hb hby d18_21) rfl (teq hc1).1 (by decide) (by decide) k)
    show Gl _ _ _ _ (s₁.setTop (mkF m 26 #[.val (.ref xa), .val (.ref ya), .val (.int (0 : Int32))] []))
    refine Gl.go ?_ (fun t k => XS.iinc X0.here hx rfl (hb hby d18_26) rfl (l' := #[.val (.ref xa), .val (.ref ya), .val (.int (1 : Int32))]) rfl k)
    show Gl _ _ _ _ (s₁.setTop (mkF m 29 _ []))
    refine Gl.go ?_ (fun t k => XS.goto X0.here hx rfl (pc0 := 29) (pc' := 9) rfl (hb hby d18_29) (by decide) (by decide) k)
    show Gl _ _ _ _ (s₁.setTop (mkF m 9 _ []))
    refine Gl.go ?_ (fun t k => XS.iloadN X0.here hx rfl (hb hby d18_9) rfl k)
    show Gl _ _ _ _ (s₁.setTop (mkF m 10 _ [(.int (1 : Int32))]))
    refine Gl.go ?_ (fun t k => XS.aloadN X0.here hx rfl (hb hby d18_10) rfl rfl k)
    show Gl _ _ _ _ (s₁.setTop (mkF m 11 #[.val (.ref xa), .val (.ref ya), .val (.int (1 : Int32))] [(.ref xa), (.int (1 : Int32))]))
    refine Gl.go ?_ (BA.len hX X0 hx hZ e0 (g := (mkF m 11 #[.val (.ref xa), .val (.ref ya), .val (.int (1 : Int32))] [(.ref xa), (.int (1 : Int32))])) rfl rfl (hb hby d18_11))
    show Gl _ _ _ _ (s₁.setTop (mkF m 12 _ [(.int (1 : Int32)), (.int (1 : Int32))]))
    refine Gl.go ?_ (fun t k => XS.icmpYes X0.here hx rfl (pc0 := 12) (pc' := 32) rfl (hb hby d18_12) rfl (flt (by decide : ¬ ((1 : Int32) < (1 : Int32)))).2.1 (by decide) (by decide) k)
    show Gl _ _ _ _ (s₁.setTop (mkF m 32 _ []))
    refine Gl.go ?_ (fun t k => XS.iconst X0.here hx rfl (hb hby d18_32) k)
    show Gl _ _ _ _ (s₁.setTop (mkF m 33 _ [(.int (1 : Int32))]))
    obtain ⟨fs, hr, hrun, hended, hW, hsame⟩ := X0.leave (v := some (.int (1 : Int32))) (fun h => by rw [Bd.returns] at h; cases h) (BodyLoose.notSynchronized Bd)
    exact Gl.mk ⟨_, _, retN X0 hx (t := .boolean) Bd.returns (by simp) (hb hby d18_33) hr, hrun, hended, _, _, rfl, ⟨congrArg (fun z => some (Value.int z)) ((if_pos hc1).trans (rfl)).symm, rfl, e0⟩, ⟨_, rfl⟩, hW, hsame.mono (by decide) (by decide)⟩
  · refine Gl.go ?_ (fun t k => XS.icmpNo X0.here hx rfl (hb hby d18_21) rfl (feq hc1).1 k)
    show Gl _ _ _ _ (s₁.setTop (mkF m 24 _ []))
    refine Gl.go ?_ (fun t k => XS.iconst X0.here hx rfl (hb hby d18_24) k)
    show Gl _ _ _ _ (s₁.setTop (mkF m 25 _ [(.int (0 : Int32))]))
    obtain ⟨fs, hr, hrun, hended, hW, hsame⟩ := X0.leave (v := some (.int (0 : Int32))) (fun h => by rw [Bd.returns] at h; cases h) (BodyLoose.notSynchronized Bd)
    exact Gl.mk ⟨_, _, retN X0 hx (t := .boolean) Bd.returns (by simp) (hb hby d18_25) hr, hrun, hended, _, _, rfl, ⟨congrArg (fun z => some (Value.int z)) ((if_neg hc1).trans (rfl)).symm, rfl, e0⟩, ⟨_, rfl⟩, hW, hsame.mono (by decide) (by decide)⟩
theorem d17_0 : decode jdk_42_method_66_code 0 = .ok (.aload_n 0, 1) := by decide +kernel
theorem d17_1 : decode jdk_42_method_66_code 1 = .ok (.aload_n 1, 1) := by decide +kernel
theorem d17_2 : decode jdk_42_method_66_code 2 = .ok (.if_acmp .ne 5, 3) := by decide +kernel
theorem d17_5 : decode jdk_42_method_66_code 5 = .ok (.iconst 1, 1) := by decide +kernel
theorem d17_6 : decode jdk_42_method_66_code 6 = .ok (.ireturn, 1) := by decide +kernel
theorem d17_7 : decode jdk_42_method_66_code 7 = .ok (.aload_n 1, 1) := by decide +kernel
theorem d17_8 : decode jdk_42_method_66_code 8 = .ok (.instanceof 10, 3) := by decide +kernel
theorem d17_11 : decode jdk_42_method_66_code 11 = .ok (.ifCond .eq 43, 3) := by decide +kernel
theorem d17_14 : decode jdk_42_method_66_code 14 = .ok (.aload_n 1, 1) := by decide +kernel
theorem d17_15 : decode jdk_42_method_66_code 15 = .ok (.checkcast 10, 3) := by decide +kernel
theorem d17_18 : decode jdk_42_method_66_code 18 = .ok (.astore_n 2, 1) := by decide +kernel
theorem d17_19 : decode jdk_42_method_66_code 19 = .ok (.getstatic 38, 3) := by decide +kernel
theorem d17_22 : decode jdk_42_method_66_code 22 = .ok (.ifCond .eq 14, 3) := by decide +kernel
theorem d17_25 : decode jdk_42_method_66_code 25 = .ok (.aload_n 0, 1) := by decide +kernel
theorem d17_26 : decode jdk_42_method_66_code 26 = .ok (.getfield 15, 3) := by decide +kernel
theorem d17_29 : decode jdk_42_method_66_code 29 = .ok (.aload_n 2, 1) := by decide +kernel
theorem d17_30 : decode jdk_42_method_66_code 30 = .ok (.getfield 15, 3) := by decide +kernel
theorem d17_33 : decode jdk_42_method_66_code 33 = .ok (.if_icmp .ne 21, 3) := by decide +kernel
theorem d17_36 : decode jdk_42_method_66_code 36 = .ok (.aload_n 0, 1) := by decide +kernel
theorem d17_37 : decode jdk_42_method_66_code 37 = .ok (.getfield 9, 3) := by decide +kernel
theorem d17_40 : decode jdk_42_method_66_code 40 = .ok (.aload_n 2, 1) := by decide +kernel
theorem d17_41 : decode jdk_42_method_66_code 41 = .ok (.getfield 9, 3) := by decide +kernel
theorem d17_44 : decode jdk_42_method_66_code 44 = .ok (.invokestatic 541, 3) := by decide +kernel
theorem d17_47 : decode jdk_42_method_66_code 47 = .ok (.ifCond .eq 7, 3) := by decide +kernel
theorem d17_50 : decode jdk_42_method_66_code 50 = .ok (.iconst 1, 1) := by decide +kernel
theorem d17_51 : decode jdk_42_method_66_code 51 = .ok (.goto 4, 3) := by decide +kernel
theorem d17_54 : decode jdk_42_method_66_code 54 = .ok (.iconst 0, 1) := by decide +kernel
theorem d17_55 : decode jdk_42_method_66_code 55 = .ok (.ireturn, 1) := by decide +kernel
theorem pn_17 : plainName "java/lang/String" = true := by first | (simp [plainName, overriddenIn]; done) | decide +kernel
theorem pd_0 : parseMethodDescriptor "([B[B)Z" = some ⟨[(.array .byte), (.array .byte)], some .boolean⟩ := by decide +kernel
def f_seq (a b : Addr) (cx cy : Int32) : Int32 := (if a = b then (1 : Int32) else (if (f_leq cx cy) = (0 : Int32) then (0 : Int32) else (1 : Int32)))
theorem ef_rm17 (m : MethodId) (x0 : Addr) (x1 : Addr) : entryFrame m #[(.ref x0), (.ref x1)] 3 = mkF m 0 #[.val (.ref x0), .val (.ref x1), .unset] [] := by first | (simp [entryFrame, mkF, argsToLocals, Value.category]; done) | rfl
set_option maxRecDepth 65536 in
set_option maxHeartbeats 40000000 in
theorem rm17 (l : Launch) (Z : State) (a0 : Array Value) (hw : ∀ d ∈ tables_1, d.before a0 Z = true) (ws : List Jvm.Cond) (a : Addr) (b : Addr) (cx cy cs : Int32) (h0 : Heap) (hA : StrIs Z h0 a cx) (hB : StrIs Z h0 b cy) (S_CS : Sta Z h0 "java/lang/String" "COMPACT_STRINGS" "Z" (.int cs)) (hcs : ¬ cs = 0) :
    MetFree l (⟨"java/lang/String", "equals", "(Ljava/lang/Object;)Z"⟩ : MethodName) (head1 (Jvm.Cond.code (⟨"java/lang/String", "equals", "(Ljava/lang/Object;)Z"⟩ : MethodName) jdk_42_method_66_code 3 (some .boolean) :: ws) ({ frames := 1, cells := 0, slots := 0, locals := 14 } : Room)) (fun aQ U => aQ = #[(.ref a), (.ref b)] ∧ Z.Warmed39 U.vm ∧ U.heap = h0) (fun _ _ _ _ _ => True) (fun _ U o U' => ∃ vQ LQ, o = .returned vQ ∧ PQ (some (.int (f_seq a b cx cy))) h0 vQ U'.heap LQ ∧ FrameEnd U o U' LQ ({ frames := 1, cells := 0, slots := 0, locals := 14 } : Room).cells ({ frames := 1, cells := 0, slots := 0, locals := 14 } : Room).slots) := by
  refine MetFree.of_bodySF (plainFor_of_name pn_17) hisR ?_
  intro p e s m args below meth c s₁ Bd hml0 hP hK
  obtain ⟨rfl, hZ, hh⟩ := hP
  have hx := Bd.exec
  have hby := Bd.bytes
  have hml : c.maxLocals = 3 := hml0
  have hown : s.vm.findClass "java/lang/String" = some m.cls := findClass_of_methodNamed Bd.named
  have hnm := (name_of_methodNamed Bd.named Bd.method).1
  have X0 : Stand p l e ({ frames := 1, cells := 0, slots := 0, locals := 14 } : Room) s m #[(.ref a), (.ref b)] below meth c s₁ [] 0 0 := Stand.of_body Bd
  have e0 : s₁.heap = h0 := by rw [← hh, Bd.state]; rfl
  obtain ⟨E_a, C_a, va, V_a, BA_a⟩ := hA
  obtain ⟨E_b, C_b, vb, V_b, BA_b⟩ := hB
  refine Gl.out ?_
  refine Gl.go ?_ (fun t k => castTop (ef_rm17 m a b) k)
  show Gl _ _ _ _ (s₁.setTop (mkF m 0 _ []))
  refine Gl.go ?_ (fun t k => XS.aloadN X0.here hx rfl (hb hby d17_0) rfl rfl k)
  show Gl _ _ _ _ (s₁.setTop (mkF m 1 _ [(.ref a)]))
  refine Gl.go ?_ (fun t k => XS.aloadN X0.here hx rfl (hb hby d17_1) rfl rfl k)
  show Gl _ _ _ _ (s₁.setTop (mkF m 2 #[.val (.ref a), .val (.ref b), .unset] [(.ref b), (.ref a)]))
  by_cases ha2 : a = b
  · refine Gl.go ?_ (fun t k => Jvm.RoadKit.acmp (g := (mkF m 2 #[.val (.ref a), .val (.ref b), .unset] [(.ref b), (.ref a)])) X0 hx rfl rfl rfl (pc0 := 2) (pc' := 5) (same := true) rfl (hb hby d17_2) rfl (decide_eq_true (congrArg Value.ref ha2)) (by decide) (by decide) k)
    show Gl _ _ _ _ (s₁.setTop (mkF m 5 _ []))
    refine Gl.go ?_ (fun t k => XS.iconst X0.here hx rfl (hb hby d17_5) k)
    show Gl _ _ _ _ (s₁.setTop (mkF m 6 _ [(.int (1 : Int32))]))
    obtain ⟨fs, hr, hrun, hended, hW, hsame⟩ := X0.leave (v := some (.int (1 : Int32))) (fun h => by rw [Bd.returns] at h; cases h) (BodyLoose.notSynchronized Bd)
    exact Gl.mk ⟨_, _, retN X0 hx (t := .boolean) Bd.returns (by simp) (hb hby d17_6) hr, hrun, hended, _, _, rfl, ⟨congrArg (fun z => some (Value.int z)) ((if_pos ha2).trans (rfl)).symm, rfl, e0⟩, ⟨_, rfl⟩, hW, hsame.mono (by decide) (by decide)⟩
  · refine Gl.go ?_ (fun t k => Jvm.RoadKit.acmp (g := (mkF m 2 #[.val (.ref a), .val (.ref b), .unset] [(.ref b), (.ref a)])) X0 hx rfl rfl rfl (pc0 := 2) (pc' := 7) (same := false) rfl (hb hby d17_2) rfl (decide_eq_false fun q => ha2 (Value.ref.inj q)) (by decide) (by decide) k)
    show Gl _ _ _ _ (s₁.setTop (mkF m 7 _ []))
    refine Gl.go ?_ (fun t k => XS.aloadN X0.here hx rfl (hb hby d17_7) rfl rfl k)
    show Gl _ _ _ _ (s₁.setTop (mkF m 8 #[.val (.ref a), .val (.ref b), .unset] [(.ref b)]))
    obtain ⟨T3, X3, e3, st3⟩ := instY X0 hx hZ hown (hw _ (List.mem_of_getElem? (i := 121) rfl)) e0 (Ins.self E_b) (g := (mkF m 8 #[.val (.ref a), .val (.ref b), .unset] [(.ref b)])) rfl rfl (hb hby d17_8)
    refine Gl.go ?_ st3
    show Gl _ _ _ _ (T3.setTop (mkF m 11 _ [(.int (1 : Int32))]))
    refine Gl.go ?_ (fun t k => XS.ifNo X3.here hx rfl (hb hby d17_11) rfl ((if0 _ _).trans (feq (by decide : ¬ ((1 : Int32) = (0 : Int32)))).1) k)
    show Gl _ _ _ _ (T3.setTop (mkF m 14 _ []))
    refine Gl.go ?_ (fun t k => XS.aloadN X3.here hx rfl (hb hby d17_14) rfl rfl k)
    show Gl _ _ _ _ (T3.setTop (mkF m 15 #[.val (.ref a), .val (.ref b), .unset] [(.ref b)]))
    obtain ⟨T4, X4, e4, st4⟩ := castY X3 hx hZ hown (hw _ (List.mem_of_getElem? (i := 121) rfl)) e3 (Ins.self E_b) (g := (mkF m 15 #[.val (.ref a), .val (.ref b), .unset] [(.ref b)])) rfl rfl (hb hby d17_15)
    refine Gl.go ?_ st4
    show Gl _ _ _ _ (T4.setTop (mkF m 18 #[.val (.ref a), .val (.ref b), .unset] [(.ref b)]))
    refine Gl.go ?_ (fun t k => XS.astoreN X4.here hx rfl (hb hby d17_18) rfl rfl (l' := #[.val (.ref a), .val (.ref b), .val (.ref b)]) rfl k)
    show Gl _ _ _ _ (T4.setTop (mkF m 19 #[.val (.ref a), .val (.ref b), .val (.ref b)] []))
    obtain ⟨T5, X5, e5, st5⟩ := getS2 X4 hx hZ hown (host := "") (Or.inl (hw _ (List.mem_of_getElem? (i := 122) rfl))) Via.refl e4 S_CS (g := (mkF m 19 #[.val (.ref a), .val (.ref b), .val (.ref b)] [])) rfl (hb hby d17_19)
    refine Gl.go ?_ st5
    show Gl _ _ _ _ (T5.setTop (mkF m 22 _ [(.int cs)]))
    refine Gl.go ?_ (fun t k => XS.ifNo X5.here hx rfl (hb hby d17_22) rfl ((if0 _ _).trans (feq hcs).1) k)
    show Gl _ _ _ _ (T5.setTop (mkF m 25 _ []))
    refine Gl.go ?_ (fun t k => XS.aloadN X5.here hx rfl (hb hby d17_25) rfl rfl k)
    show Gl _ _ _ _ (T5.setTop (mkF m 26 #[.val (.ref a), .val (.ref b), .val (.ref b)] [(.ref a)]))
    obtain ⟨T6, X6, e6, st6⟩ := getF X5 hx hZ hown (host := "") (Or.inl (hw _ (List.mem_of_getElem? (i := 123) rfl))) Via.refl e5 C_a (g := (mkF m 26 #[.val (.ref a), .val (.ref b), .val (.ref b)] [(.ref a)])) rfl rfl (hb hby d17_26)
    refine Gl.go ?_ st6
    show Gl _ _ _ _ (T6.setTop (mkF m 29 _ [(.int (0 : Int32))]))
    refine Gl.go ?_ (fun t k => XS.aloadN X6.here hx rfl (hb hby d17_29) rfl rfl k)
    show Gl _ _ _ _ (T6.setTop (mkF m 30 #[.val (.ref a), .val (.ref b), .val (.ref b)] [(.ref b), (.int (0 : Int32))]))
    obtain ⟨T7, X7, e7, st7⟩ := getF X6 hx hZ hown (host := "") (Or.inl (hw _ (List.mem_of_getElem? (i := 123) rfl))) Via.refl e6 C_b (g := (mkF m 30 #[.val (.ref a), .val (.ref b), .val (.ref b)] [(.ref b), (.int (0 : Int32))])) rfl rfl (hb hby d17_30)
    refine Gl.go ?_ st7
    show Gl _ _ _ _ (T7.setTop (mkF m 33 _ [(.int (0 : Int32)), (.int (0 : Int32))]))
    refine Gl.go ?_ (fun t k => XS.icmpNo X7.here hx rfl (hb hby d17_33) rfl (teq (by decide : (0 : Int32) = (0 : Int32))).2 k)
    show Gl _ _ _ _ (T7.setTop (mkF m 36 _ []))
    refine Gl.go ?_ (fun t k => XS.aloadN X7.here hx rfl (hb hby d17_36) rfl rfl k)
    show Gl _ _ _ _ (T7.setTop (mkF m 37 #[.val (.ref a), .val (.ref b), .val (.ref b)] [(.ref a)]))
    obtain ⟨T8, X8, e8, st8⟩ := getF X7 hx hZ hown (host := "") (Or.inl (hw _ (List.mem_of_getElem? (i := 124) rfl))) Via.refl e7 V_a (g := (mkF m 37 #[.val (.ref a), .val (.ref b), .val (.ref b)] [(.ref a)])) rfl rfl (hb hby d17_37)
    refine Gl.go ?_ st8
    show Gl _ _ _ _ (T8.setTop (mkF m 40 _ [(.ref va)]))
    refine Gl.go ?_ (fun t k => XS.aloadN X8.here hx rfl (hb hby d17_40) rfl rfl k)
    show Gl _ _ _ _ (T8.setTop (mkF m 41 #[.val (.ref a), .val (.ref b), .val (.ref b)] [(.ref b), (.ref va)]))
    obtain ⟨T9, X9, e9, st9⟩ := getF X8 hx hZ hown (host := "") (Or.inl (hw _ (List.mem_of_getElem? (i := 124) rfl))) Via.refl e8 V_b (g := (mkF m 41 #[.val (.ref a), .val (.ref b), .val (.ref b)] [(.ref b), (.ref va)])) rfl rfl (hb hby d17_41)
    refine Gl.go ?_ st9
    show Gl _ _ _ _ (T9.setTop (mkF m 44 #[.val (.ref a), .val (.ref b), .val (.ref b)] [(.ref vb), (.ref va)]))
    obtain ⟨_, _, ⟨T10, L10, k10, n10⟩, -, X10, ⟨Lc10, hQ10, l10, y10, z10⟩, st10⟩ := Jvm.LawKit.callS X9 hx (y := (⟨"java/lang/StringLatin1", "equals", "([B[B)Z"⟩ : MethodName)) hown (mvT hZ (hw _ (List.mem_of_getElem? (i := 125) rfl))) (mvT hZ (hw _ (List.mem_of_getElem? (i := 126) rfl))) (mvT hZ (hw _ (List.mem_of_getElem? (i := 127) rfl))) (mvT hZ (hw _ (List.mem_of_getElem? (i := 128) rfl))) (by decide) (backOf (W := 0) (rm18 l Z a0 hw [] va vb cx cy h0 BA_a BA_b) hZ (hw _ (List.mem_of_getElem? (i := 128) rfl)) (hw _ (List.mem_of_getElem? (i := 127) rfl)) (by decide) (by decide)) (g := (mkF m 44 #[.val (.ref a), .val (.ref b), .val (.ref b)] [(.ref vb), (.ref va)])) rfl (by rw [hml]; rfl) (argsL := [(.ref va), (.ref vb)]) (rest := []) (lenOf pd_0 rfl) rfl (by show 2 * 0 + _ ≤ _; exact Nat.le_of_eq rfl) (hb hby d17_44) (fun _ _ => ⟨rfl, e9, (by decide : 0 + 0 ≤ _), (by decide : 0 + 0 ≤ _)⟩)
    dsimp only [Pt.U, Pt.locs, Pt.cells, Pt.slots] at X10 l10 y10 z10 st10 hQ10
    rw [l10, y10, z10] at X10
    clear l10 y10 z10
    obtain ⟨rfl, rfl, e10⟩ := hQ10
    refine Gl.go ?_ st10
    show Gl _ _ _ _ (T10.setTop (mkF m 47 _ [(.int (f_leq cx cy))]))
    by_cases hc11 : (f_leq cx cy) = (0 : Int32)
    · refine Gl.go ?_ (fun t k => XS.ifYes X10.here hx rfl (pc0 := 47) (pc' := 54) rfl (hb hby d17_47) rfl ((if0 _ _).trans (teq hc11).1) (by decide) (by decide) k)
      show Gl _ _ _ _ (T10.setTop (mkF m 54 _ []))
      refine Gl.go ?_ (fun t k => XS.iconst X10.here hx rfl (hb hby d17_54) k)
      show Gl _ _ _ _ (T10.setTop (mkF m 55 _ [(.int (0 : Int32))]))
      obtain ⟨fs, hr, hrun, hended, hW, hsame⟩ := X10.leave (v := some (.int (0 : Int32))) (fun h => by rw [Bd.returns] at h; cases h) (BodyLoose.notSynchronized Bd)
      exact Gl.mk ⟨_, _, retN X10 hx (t := .boolean) Bd.returns (by simp) (hb hby d17_55) hr, hrun, hended, _, _, rfl, ⟨congrArg (fun z => some (Value.int z)) ((if_neg ha2).trans ((if_pos hc11).trans (rfl))).symm, rfl, e10⟩, ⟨_, rfl⟩, hW, hsame.mono (by decide) (by decide)⟩
    · refine Gl.go ?_ (fun t k => XS.ifNo X10.here hx rfl (hb hby d17_47) rfl ((if0 _ _).trans (feq hc11).1) k)
      show Gl _ _ _ _ (T10.setTop (mkF m 50 _ []))
      refine Gl.go ?_ (fun t k => XS.iconst X10.here hx rfl (hb hby d17_50) k)
      show Gl _ _ _ _ (T10.setTop (mkF m 51 _ [(.int (1 : Int32))]))
      refine Gl.go ?_ (fun t k => XS.goto X10.here hx rfl (pc0 := 51) (pc' := 55) rfl (hb hby d17_51) (by decide) (by decide) k)
      show Gl _ _ _ _ (T10.setTop (mkF m 55 _ [(.int (1 : Int32))]))
      obtain ⟨fs, hr, hrun, hended, hW, hsame⟩ := X10.leave (v := some (.int (1 : Int32))) (fun h => by rw [Bd.returns] at h; cases h) (BodyLoose.notSynchronized Bd)
      exact Gl.mk ⟨_, _, retN X10 hx (t := .boolean) Bd.returns (by simp) (hb hby d17_55) hr, hrun, hended, _, _, rfl, ⟨congrArg (fun z => some (Value.int z)) ((if_neg ha2).trans ((if_neg hc11).trans (rfl))).symm, rfl, e10⟩, ⟨_, rfl⟩, hW, hsame.mono (by decide) (by decide)⟩
theorem own_seq1 (a : Addr) (c : Int32) : f_seq a a c c = 1 := if_pos rfl
theorem own_seq0 {a b : Addr} {c d : Int32} (h : a ≠ b) (q : c ≠ d) : f_seq a b c d = 0 := (if_neg h).trans (if_pos (if_neg q))
theorem d16_0 : decode jdk_31_method_2_code 0 = .ok (.aload_n 0, 1) := by decide +kernel
theorem d16_1 : decode jdk_31_method_2_code 1 = .ok (.aload_n 1, 1) := by decide +kernel
theorem d16_2 : decode jdk_31_method_2_code 2 = .ok (.if_acmp .eq 15, 3) := by decide +kernel
theorem d16_5 : decode jdk_31_method_2_code 5 = .ok (.aload_n 0, 1) := by decide +kernel
theorem d16_6 : decode jdk_31_method_2_code 6 = .ok (.ifnull 15, 3) := by decide +kernel
theorem d16_9 : decode jdk_31_method_2_code 9 = .ok (.aload_n 0, 1) := by decide +kernel
theorem d16_10 : decode jdk_31_method_2_code 10 = .ok (.aload_n 1, 1) := by decide +kernel
theorem d16_11 : decode jdk_31_method_2_code 11 = .ok (.invokevirtual 14, 3) := by decide +kernel
theorem d16_14 : decode jdk_31_method_2_code 14 = .ok (.ifCond .eq 7, 3) := by decide +kernel
theorem d16_17 : decode jdk_31_method_2_code 17 = .ok (.iconst 1, 1) := by decide +kernel
theorem d16_18 : decode jdk_31_method_2_code 18 = .ok (.goto 4, 3) := by decide +kernel
theorem d16_21 : decode jdk_31_method_2_code 21 = .ok (.iconst 0, 1) := by decide +kernel
theorem d16_22 : decode jdk_31_method_2_code 22 = .ok (.ireturn, 1) := by decide +kernel
theorem pn_16 : plainName "java/util/Objects" = true := by first | (simp [plainName, overriddenIn]; done) | decide +kernel
theorem pd_1 : parseMethodDescriptor "(Ljava/lang/Object;)Z" = some ⟨[(.object "java/lang/Object")], some .boolean⟩ := by decide +kernel
def f_oeq (a b : Addr) (cx cy : Int32) : Int32 := (if a = b then (1 : Int32) else (if (f_seq a b cx cy) = (0 : Int32) then (0 : Int32) else (1 : Int32)))
theorem ef_rm16 (m : MethodId) (x0 : Addr) (x1 : Addr) : entryFrame m #[(.ref x0), (.ref x1)] 2 = mkF m 0 #[.val (.ref x0), .val (.ref x1)] [] := by first | (simp [entryFrame, mkF, argsToLocals, Value.category]; done) | rfl
set_option maxRecDepth 65536 in
set_option maxHeartbeats 40000000 in
theorem rm16 (l : Launch) (Z : State) (a0 : Array Value) (hw : ∀ d ∈ tables_1, d.before a0 Z = true) (ws : List Jvm.Cond) (a : Addr) (b : Addr) (cx cy cs : Int32) (h0 : Heap) (hA : StrIs Z h0 a cx) (hB : StrIs Z h0 b cy) (S_CS : Sta Z h0 "java/lang/String" "COMPACT_STRINGS" "Z" (.int cs)) (hcs : ¬ cs = 0) :
    MetFree l (⟨"java/util/Objects", "equals", "(Ljava/lang/Object;Ljava/lang/Object;)Z"⟩ : MethodName) (head1 (Jvm.Cond.code (⟨"java/util/Objects", "equals", "(Ljava/lang/Object;Ljava/lang/Object;)Z"⟩ : MethodName) jdk_31_method_2_code 2 (some .boolean) :: ws) ({ frames := 2, cells := 0, slots := 0, locals := 28 } : Room)) (fun aQ U => aQ = #[(.ref a), (.ref b)] ∧ Z.Warmed39 U.vm ∧ U.heap = h0) (fun _ _ _ _ _ => True) (fun _ U o U' => ∃ vQ LQ, o = .returned vQ ∧ PQ (some (.int (f_oeq a b cx cy))) h0 vQ U'.heap LQ ∧ FrameEnd U o U' LQ ({ frames := 2, cells := 0, slots := 0, locals := 28 } : Room).cells ({ frames := 2, cells := 0, slots := 0, locals := 28 } : Room).slots) := by
  refine MetFree.of_bodySF (plainFor_of_name pn_16) hisR ?_
  intro p e s m args below meth c s₁ Bd hml0 hP hK
  obtain ⟨rfl, hZ, hh⟩ := hP
  have hx := Bd.exec
  have hby := Bd.bytes
  have hml : c.maxLocals = 2 := hml0
  have hown : s.vm.findClass "java/util/Objects" = some m.cls := findClass_of_methodNamed Bd.named
  have hnm := (name_of_methodNamed Bd.named Bd.method).1
  have X0 : Stand p l e ({ frames := 2, cells := 0, slots := 0, locals := 28 } : Room) s m #[(.ref a), (.ref b)] below meth c s₁ [] 0 0 := Stand.of_body Bd
  have e0 : s₁.heap = h0 := by rw [← hh, Bd.state]; rfl
  refine Gl.out ?_
  refine Gl.go ?_ (fun t k => castTop (ef_rm16 m a b) k)
  show Gl _ _ _ _ (s₁.setTop (mkF m 0 _ []))
  refine Gl.go ?_ (fun t k => XS.aloadN X0.here hx rfl (hb hby d16_0) rfl rfl k)
  show Gl _ _ _ _ (s₁.setTop (mkF m 1 _ [(.ref a)]))
  refine Gl.go ?_ (fun t k => XS.aloadN X0.here hx rfl (hb hby d16_1) rfl rfl k)
  show Gl _ _ _ _ (s₁.setTop (mkF m 2 #[.val (.ref a), .val (.ref b)] [(.ref b), (.ref a)]))
  by_cases ha12 : a = b
  · refine Gl.go ?_ (fun t k => Jvm.RoadKit.acmp (g := (mkF m 2 #[.val (.ref a), .val (.ref b)] [(.ref b), (.ref a)])) X0 hx rfl rfl rfl (pc0 := 2) (pc' := 17) (same := true) rfl (hb hby d16_2) rfl (decide_eq_true (congrArg Value.ref ha12)) (by decide) (by decide) k)
    show Gl _ _ _ _ (s₁.setTop (mkF m 17 _ []))
    refine Gl.go ?_ (fun t k => XS.iconst X0.here hx rfl (hb hby d16_17) k)
    show Gl _ _ _ _ (s₁.setTop (mkF m 18 _ [(.int (1 : Int32))]))
    refine Gl.go ?_ (fun t k => XS.goto X0.here hx rfl (pc0 := 18) (pc' := 22) rfl (hb hby d16_18) (by decide) (by decide) k)
    show Gl _ _ _ _ (s₁.setTop (mkF m 22 _ [(.int (1 : Int32))]))
    obtain ⟨fs, hr, hrun, hended, hW, hsame⟩ := X0.leave (v := some (.int (1 : Int32))) (fun h => by rw [Bd.returns] at h; cases h) (BodyLoose.notSynchronized Bd)
    exact Gl.mk ⟨_, _, retN X0 hx (t := .boolean) Bd.returns (by simp) (hb hby d16_22) hr, hrun, hended, _, _, rfl, ⟨congrArg (fun z => some (Value.int z)) ((if_pos ha12).trans (rfl)).symm, rfl, e0⟩, ⟨_, rfl⟩, hW, hsame.mono (by decide) (by decide)⟩
  · refine Gl.go ?_ (fun t k => Jvm.RoadKit.acmp (g := (mkF m 2 #[.val (.ref a), .val (.ref b)] [(.ref b), (.ref a)])) X0 hx rfl rfl rfl (pc0 := 2) (pc' := 5) (same := false) rfl (hb hby d16_2) rfl (decide_eq_false fun q => ha12 (Value.ref.inj q)) (by decide) (by decide) k)
    show Gl _ _ _ _ (s₁.setTop (mkF m 5 _ []))
    refine Gl.go ?_ (fun t k => XS.aloadN X0.here hx rfl (hb hby d16_5) rfl rfl k)
    show Gl _ _ _ _ (s₁.setTop (mkF m 6 #[.val (.ref a), .val (.ref b)] [(.ref a)]))
    refine Gl.go ?_ (fun t k => XS.ifnullNo X0.here hx rfl (hb hby d16_6) rfl k)
    show Gl _ _ _ _ (s₁.setTop (mkF m 9 _ []))
    refine Gl.go ?_ (fun t k => XS.aloadN X0.here hx rfl (hb hby d16_9) rfl rfl k)
    show Gl _ _ _ _ (s₁.setTop (mkF m 10 _ [(.ref a)]))
    refine Gl.go ?_ (fun t k => XS.aloadN X0.here hx rfl (hb hby d16_10) rfl rfl k)
    show Gl _ _ _ _ (s₁.setTop (mkF m 11 #[.val (.ref a), .val (.ref b)] [(.ref b), (.ref a)]))
    obtain ⟨cq13, kq13, q13a, q13b, q13c⟩ := isOf hZ e0 hA.1
    obtain ⟨_, _, ⟨T13, L13, k13, n13⟩, -, X13, ⟨Lc13, hQ13, l13, y13, z13⟩, st13⟩ := X0.virtualBack hx (y := (⟨"java/lang/Object", "equals", "(Ljava/lang/Object;)Z"⟩ : MethodName)) (z := (⟨"java/lang/String", "equals", "(Ljava/lang/Object;)Z"⟩ : MethodName)) hown (mvT hZ (hw _ (List.mem_of_getElem? (i := 115) rfl))) (mvT hZ (hw _ (List.mem_of_getElem? (i := 116) rfl))) (own_nfo (args := #[]) (mvT hZ (hw _ (List.mem_of_getElem? (i := 94) rfl))) rfl) (mvT hZ (hw _ (List.mem_of_getElem? (i := 118) rfl))) (mvT hZ (hw _ (List.mem_of_getElem? (i := 119) rfl))) (by decide) (backOf (W := 0) (rm17 l Z a0 hw [] a b cx cy cs h0 hA hB S_CS hcs) hZ (hw _ (List.mem_of_getElem? (i := 120) rfl)) (hw _ (List.mem_of_getElem? (i := 7) rfl)) (by decide) (by decide)) q13a q13c (g := (mkF m 11 #[.val (.ref a), .val (.ref b)] [(.ref b), (.ref a)])) rfl (by rw [hml]; rfl) (Steps.refl _) (argsL := [(.ref b)]) (rest := []) (lenOf pd_1 rfl) rfl (by show 2 * 0 + _ ≤ _; exact Nat.le_of_eq rfl) (hb hby d16_11) (fun _ _ => ⟨rfl, e0, (by decide : 0 + 0 ≤ _), (by decide : 0 + 0 ≤ _)⟩)
    dsimp only [Pt.U, Pt.locs, Pt.cells, Pt.slots] at X13 l13 y13 z13 st13 hQ13
    rw [l13, y13, z13] at X13
    clear l13 y13 z13
    obtain ⟨rfl, rfl, e13⟩ := hQ13
    refine Gl.tr ?_ st13
    show Gl _ _ _ _ (T13.setTop (mkF m 14 _ [(.int (f_seq a b cx cy))]))
    by_cases hc14 : (f_seq a b cx cy) = (0 : Int32)
    · refine Gl.go ?_ (fun t k => XS.ifYes X13.here hx rfl (pc0 := 14) (pc' := 21) rfl (hb hby d16_14) rfl ((if0 _ _).trans (teq hc14).1) (by decide) (by decide) k)
      show Gl _ _ _ _ (T13.setTop (mkF m 21 _ []))
      refine Gl.go ?_ (fun t k => XS.iconst X13.here hx rfl (hb hby d16_21) k)
      show Gl _ _ _ _ (T13.setTop (mkF m 22 _ [(.int (0 : Int32))]))
      obtain ⟨fs, hr, hrun, hended, hW, hsame⟩ := X13.leave (v := some (.int (0 : Int32))) (fun h => by rw [Bd.returns] at h; cases h) (BodyLoose.notSynchronized Bd)
      exact Gl.mk ⟨_, _, retN X13 hx (t := .boolean) Bd.returns (by simp) (hb hby d16_22) hr, hrun, hended, _, _, rfl, ⟨congrArg (fun z => some (Value.int z)) ((if_neg ha12).trans ((if_pos hc14).trans (rfl))).symm, rfl, e13⟩, ⟨_, rfl⟩, hW, hsame.mono (by decide) (by decide)⟩
    · refine Gl.go ?_ (fun t k => XS.ifNo X13.here hx rfl (hb hby d16_14) rfl ((if0 _ _).trans (feq hc14).1) k)
      show Gl _ _ _ _ (T13.setTop (mkF m 17 _ []))
      refine Gl.go ?_ (fun t k => XS.iconst X13.here hx rfl (hb hby d16_17) k)
      show Gl _ _ _ _ (T13.setTop (mkF m 18 _ [(.int (1 : Int32))]))
      refine Gl.go ?_ (fun t k => XS.goto X13.here hx rfl (pc0 := 18) (pc' := 22) rfl (hb hby d16_18) (by decide) (by decide) k)
      show Gl _ _ _ _ (T13.setTop (mkF m 22 _ [(.int (1 : Int32))]))
      obtain ⟨fs, hr, hrun, hended, hW, hsame⟩ := X13.leave (v := some (.int (1 : Int32))) (fun h => by rw [Bd.returns] at h; cases h) (BodyLoose.notSynchronized Bd)
      exact Gl.mk ⟨_, _, retN X13 hx (t := .boolean) Bd.returns (by simp) (hb hby d16_22) hr, hrun, hended, _, _, rfl, ⟨congrArg (fun z => some (Value.int z)) ((if_neg ha12).trans ((if_neg hc14).trans (rfl))).symm, rfl, e13⟩, ⟨_, rfl⟩, hW, hsame.mono (by decide) (by decide)⟩
theorem own_oeq1 (a : Addr) (c : Int32) : f_oeq a a c c = 1 := if_pos rfl
theorem own_oeq0 {a b : Addr} {c d : Int32} (h : a ≠ b) (q : c ≠ d) : f_oeq a b c d = 0 := (if_neg h).trans (if_pos (own_seq0 h q))
theorem d5_0 : decode jdk_31_method_10_code 0 = .ok (.aload_n 0, 1) := by decide +kernel
theorem d5_1 : decode jdk_31_method_10_code 1 = .ok (.ifnonnull 11, 3) := by decide +kernel
theorem d5_4 : decode jdk_31_method_10_code 4 = .ok (.new 84, 3) := by decide +kernel
theorem d5_7 : decode jdk_31_method_10_code 7 = .ok (.dup, 1) := by decide +kernel
theorem d5_8 : decode jdk_31_method_10_code 8 = .ok (.invokespecial 86, 3) := by decide +kernel
theorem d5_11 : decode jdk_31_method_10_code 11 = .ok (.athrow, 1) := by decide +kernel
theorem d5_12 : decode jdk_31_method_10_code 12 = .ok (.aload_n 0, 1) := by decide +kernel
theorem d5_13 : decode jdk_31_method_10_code 13 = .ok (.areturn, 1) := by decide +kernel
theorem pn_5 : plainName "java/util/Objects" = true := by first | (simp [plainName, overriddenIn]; done) | decide +kernel
def f_rnn (a : Addr) : Addr := a
theorem ef_rm5 (m : MethodId) (x0 : Addr) : entryFrame m #[(.ref x0)] 1 = mkF m 0 #[.val (.ref x0)] [] := by first | (simp [entryFrame, mkF, argsToLocals, Value.category]; done) | rfl
set_option maxRecDepth 65536 in
set_option maxHeartbeats 40000000 in
theorem rm5 (l : Launch) (Z : State) (a0 : Array Value) (hw : ∀ d ∈ tables_1, d.before a0 Z = true) (ws : List Jvm.Cond) (a : Addr)  (h0 : Heap)  :
    MetFree l (⟨"java/util/Objects", "requireNonNull", "(Ljava/lang/Object;)Ljava/lang/Object;"⟩ : MethodName) (head1 (Jvm.Cond.code (⟨"java/util/Objects", "requireNonNull", "(Ljava/lang/Object;)Ljava/lang/Object;"⟩ : MethodName) jdk_31_method_10_code 1 (some (.object "java/lang/Object")) :: ws) ({ frames := 0, cells := 0, slots := 0, locals := 0 } : Room)) (fun aQ U => aQ = #[(.ref a)] ∧ Z.Warmed39 U.vm ∧ U.heap = h0) (fun _ _ _ _ _ => True) (fun _ U o U' => ∃ vQ LQ, o = .returned vQ ∧ PQ (some (.ref (f_rnn a))) h0 vQ U'.heap LQ ∧ FrameEnd U o U' LQ ({ frames := 0, cells := 0, slots := 0, locals := 0 } : Room).cells ({ frames := 0, cells := 0, slots := 0, locals := 0 } : Room).slots) := by
  refine MetFree.of_bodySF (plainFor_of_name pn_5) hisR ?_
  intro p e s m args below meth c s₁ Bd hml0 hP hK
  obtain ⟨rfl, hZ, hh⟩ := hP
  have hx := Bd.exec
  have hby := Bd.bytes
  have hml : c.maxLocals = 1 := hml0
  have hown : s.vm.findClass "java/util/Objects" = some m.cls := findClass_of_methodNamed Bd.named
  have hnm := (name_of_methodNamed Bd.named Bd.method).1
  have X0 : Stand p l e ({ frames := 0, cells := 0, slots := 0, locals := 0 } : Room) s m #[(.ref a)] below meth c s₁ [] 0 0 := Stand.of_body Bd
  have e0 : s₁.heap = h0 := by rw [← hh, Bd.state]; rfl
  refine Gl.out ?_
  refine Gl.go ?_ (fun t k => castTop (ef_rm5 m a) k)
  show Gl _ _ _ _ (s₁.setTop (mkF m 0 _ []))
  refine Gl.go ?_ (fun t k => XS.aloadN X0.here hx rfl (hb hby d5_0) rfl rfl k)
  show Gl _ _ _ _ (s₁.setTop (mkF m 1 #[.val (.ref a)] [(.ref a)]))
  refine Gl.go ?_ (fun t k => XS.ifnonnullYes X0.here hx rfl (pc0 := 1) (pc' := 12) rfl (hb hby d5_1) rfl (by decide) (by decide) k)
  show Gl _ _ _ _ (s₁.setTop (mkF m 12 _ []))
  refine Gl.go ?_ (fun t k => XS.aloadN X0.here hx rfl (hb hby d5_12) rfl rfl k)
  show Gl _ _ _ _ (s₁.setTop (mkF m 13 _ [(.ref a)]))
  obtain ⟨fs, hr, hrun, hended, hW, hsame⟩ := X0.leave (v := some (.ref a)) (fun h => by rw [Bd.returns] at h; cases h) (BodyLoose.notSynchronized Bd)
  exact Gl.mk ⟨_, _, retOut X0 hx Bd.returns rfl (Or.inr (Or.inr (Or.inr (Or.inr ⟨rfl, rfl, rfl⟩)))) (hb hby d5_13) hr, hrun, hended, _, _, rfl, ⟨congrArg (fun z => some (Value.ref z)) (rfl).symm, rfl, e0⟩, ⟨_, rfl⟩, hW, hsame.mono (by decide) (by decide)⟩
def own_ch (i : Nat) : Int32 := Int32.ofNat (97 + i)
theorem d20_0 : decode jdk_44_method_6_code 0 = .ok (.aload_n 1, 1) := by decide +kernel
theorem d20_1 : decode jdk_44_method_6_code 1 = .ok (.invokestatic 7, 3) := by decide +kernel
theorem d20_4 : decode jdk_44_method_6_code 4 = .ok (.pop, 1) := by decide +kernel
theorem d20_5 : decode jdk_44_method_6_code 5 = .ok (.aload_n 1, 1) := by decide +kernel
theorem d20_6 : decode jdk_44_method_6_code 6 = .ok (.aload_n 0, 1) := by decide +kernel
theorem d20_7 : decode jdk_44_method_6_code 7 = .ok (.getfield 13, 3) := by decide +kernel
theorem d20_10 : decode jdk_44_method_6_code 10 = .ok (.invokevirtual 31, 3) := by decide +kernel
theorem d20_13 : decode jdk_44_method_6_code 13 = .ok (.ifCond .eq 5, 3) := by decide +kernel
theorem d20_16 : decode jdk_44_method_6_code 16 = .ok (.iconst 0, 1) := by decide +kernel
theorem d20_17 : decode jdk_44_method_6_code 17 = .ok (.ireturn, 1) := by decide +kernel
theorem d20_18 : decode jdk_44_method_6_code 18 = .ok (.aload_n 0, 1) := by decide +kernel
theorem d20_19 : decode jdk_44_method_6_code 19 = .ok (.getfield 24, 3) := by decide +kernel
theorem d20_22 : decode jdk_44_method_6_code 22 = .ok (.getstatic 19, 3) := by decide +kernel
theorem d20_25 : decode jdk_44_method_6_code 25 = .ok (.if_acmp .eq 16, 3) := by decide +kernel
theorem d20_28 : decode jdk_44_method_6_code 28 = .ok (.aload_n 1, 1) := by decide +kernel
theorem d20_29 : decode jdk_44_method_6_code 29 = .ok (.aload_n 0, 1) := by decide +kernel
theorem d20_30 : decode jdk_44_method_6_code 30 = .ok (.getfield 24, 3) := by decide +kernel
theorem d20_33 : decode jdk_44_method_6_code 33 = .ok (.invokevirtual 31, 3) := by decide +kernel
theorem d20_36 : decode jdk_44_method_6_code 36 = .ok (.ifCond .eq 5, 3) := by decide +kernel
theorem d20_39 : decode jdk_44_method_6_code 39 = .ok (.iconst 1, 1) := by decide +kernel
theorem d20_40 : decode jdk_44_method_6_code 40 = .ok (.ireturn, 1) := by decide +kernel
theorem d20_41 : decode jdk_44_method_6_code 41 = .ok (.iconst (-1), 1) := by decide +kernel
theorem d20_42 : decode jdk_44_method_6_code 42 = .ok (.ireturn, 1) := by decide +kernel
theorem pn_20 : plainName "java/util/ImmutableCollections$List12" = true := by first | (simp [plainName, overriddenIn]; done) | decide +kernel
theorem pd_2 : parseMethodDescriptor "(Ljava/lang/Object;)Ljava/lang/Object;" = some ⟨[(.object "java/lang/Object")], some (.object "java/lang/Object")⟩ := by decide +kernel
def f_x12_0  : Int32 := (0 : Int32)
theorem ef_rm_x12_0 (m : MethodId) (x0 : Addr) (x1 : Addr) : entryFrame m #[(.ref x0), (.ref x1)] 2 = mkF m 0 #[.val (.ref x0), .val (.ref x1)] [] := by first | (simp [entryFrame, mkF, argsToLocals, Value.category]; done) | rfl
set_option maxRecDepth 65536 in
set_option maxHeartbeats 40000000 in
theorem rm_x12_0 (l : Launch) (Z : State) (a0 : Array Value) (hw : ∀ d ∈ tables_1, d.before a0 Z = true) (ws : List Jvm.Cond) (a : Addr) (A : Nat → Addr) (cs : Int32) (em : Addr) (h0 : Heap) (F_e0 : Fld Z h0 a "java/util/ImmutableCollections$List12" "e0" "Ljava/lang/Object;" (.ref (A 0))) (hS0 : StrIs Z h0 (A 0) (own_ch 0)) (S_CS : Sta Z h0 "java/lang/String" "COMPACT_STRINGS" "Z" (.int cs)) (hcs : ¬ cs = 0) :
    MetFree l (⟨"java/util/ImmutableCollections$List12", "indexOf", "(Ljava/lang/Object;)I"⟩ : MethodName) (head1 (Jvm.Cond.code (⟨"java/util/ImmutableCollections$List12", "indexOf", "(Ljava/lang/Object;)I"⟩ : MethodName) jdk_44_method_6_code 2 (some .int) :: ws) ({ frames := 4, cells := 0, slots := 0, locals := 80 } : Room)) (fun aQ U => aQ = #[(.ref a), (.ref (A 0))] ∧ Z.Warmed39 U.vm ∧ U.heap = h0) (fun _ _ _ _ _ => True) (fun _ U o U' => ∃ vQ LQ, o = .returned vQ ∧ PQ (some (.int (f_x12_0 ))) h0 vQ U'.heap LQ ∧ FrameEnd U o U' LQ ({ frames := 4, cells := 0, slots := 0, locals := 80 } : Room).cells ({ frames := 4, cells := 0, slots := 0, locals := 80 } : Room).slots) := by
  refine MetFree.of_bodySF (plainFor_of_name pn_20) hisR ?_
  intro p e s m args below meth c s₁ Bd hml0 hP hK
  obtain ⟨rfl, hZ, hh⟩ := hP
  have hx := Bd.exec
  have hby := Bd.bytes
  have hml : c.maxLocals = 2 := hml0
  have hown : s.vm.findClass "java/util/ImmutableCollections$List12" = some m.cls := findClass_of_methodNamed Bd.named
  have hnm := (name_of_methodNamed Bd.named Bd.method).1
  have X0 : Stand p l e ({ frames := 4, cells := 0, slots := 0, locals := 80 } : Room) s m #[(.ref a), (.ref (A 0))] below meth c s₁ [] 0 0 := Stand.of_body Bd
  have e0 : s₁.heap = h0 := by rw [← hh, Bd.state]; rfl
  refine Gl.out ?_
  refine Gl.go ?_ (fun t k => castTop (ef_rm_x12_0 m a (A 0)) k)
  show Gl _ _ _ _ (s₁.setTop (mkF m 0 _ []))
  refine Gl.go ?_ (fun t k => XS.aloadN X0.here hx rfl (hb hby d20_0) rfl rfl k)
  show Gl _ _ _ _ (s₁.setTop (mkF m 1 #[.val (.ref a), .val (.ref (A 0))] [(.ref (A 0))]))
  obtain ⟨_, _, ⟨T15, L15, k15, n15⟩, -, X15, ⟨Lc15, hQ15, l15, y15, z15⟩, st15⟩ := Jvm.LawKit.callS X0 hx (y := (⟨"java/util/Objects", "requireNonNull", "(Ljava/lang/Object;)Ljava/lang/Object;"⟩ : MethodName)) hown (mvT hZ (hw _ (List.mem_of_getElem? (i := 141) rfl))) (mvT hZ (hw _ (List.mem_of_getElem? (i := 34) rfl))) (mvT hZ (hw _ (List.mem_of_getElem? (i := 35) rfl))) (mvT hZ (hw _ (List.mem_of_getElem? (i := 36) rfl))) (by decide) (backOf (W := 0) (rm5 l Z a0 hw [] (A 0) h0) hZ (hw _ (List.mem_of_getElem? (i := 36) rfl)) (hw _ (List.mem_of_getElem? (i := 35) rfl)) (by decide) (by decide)) (g := (mkF m 1 #[.val (.ref a), .val (.ref (A 0))] [(.ref (A 0))])) rfl (by rw [hml]; rfl) (argsL := [(.ref (A 0))]) (rest := []) (lenOf pd_2 rfl) rfl (by show 2 * 0 + _ ≤ _; exact Nat.le_of_eq rfl) (hb hby d20_1) (fun _ _ => ⟨rfl, e0, (by decide : 0 + 0 ≤ _), (by decide : 0 + 0 ≤ _)⟩)
  dsimp only [Pt.U, Pt.locs, Pt.cells, Pt.slots] at X15 l15 y15 z15 st15 hQ15
  rw [l15, y15, z15] at X15
  clear l15 y15 z15
  obtain ⟨rfl, rfl, e15⟩ := hQ15
  refine Gl.go ?_ st15
  show Gl _ _ _ _ (T15.setTop (mkF m 4 _ [(.ref (A 0))]))
  refine Gl.go ?_ (fun t k => XS.pop X15.here hx rfl (hb hby d20_4) rfl rfl k)
  show Gl _ _ _ _ (T15.setTop (mkF m 5 _ []))
  refine Gl.go ?_ (fun t k => XS.aloadN X15.here hx rfl (hb hby d20_5) rfl rfl k)
  show Gl _ _ _ _ (T15.setTop (mkF m 6 _ [(.ref (A 0))]))
  refine Gl.go ?_ (fun t k => XS.aloadN X15.here hx rfl (hb hby d20_6) rfl rfl k)
  show Gl _ _ _ _ (T15.setTop (mkF m 7 #[.val (.ref a), .val (.ref (A 0))] [(.ref a), (.ref (A 0))]))
  obtain ⟨T16, X16, e16, st16⟩ := getF X15 hx hZ hown (host := "") (Or.inl (hw _ (List.mem_of_getElem? (i := 142) rfl))) Via.refl e15 F_e0 (g := (mkF m 7 #[.val (.ref a), .val (.ref (A 0))] [(.ref a), (.ref (A 0))])) rfl rfl (hb hby d20_7)
  refine Gl.go ?_ st16
  show Gl _ _ _ _ (T16.setTop (mkF m 10 #[.val (.ref a), .val (.ref (A 0))] [(.ref (A 0)), (.ref (A 0))]))
  obtain ⟨cq17, kq17, q17a, q17b, q17c⟩ := isOf hZ e16 hS0.1
  obtain ⟨_, _, ⟨T17, L17, k17, n17⟩, -, X17, ⟨Lc17, hQ17, l17, y17, z17⟩, st17⟩ := X16.virtualBack hx (y := (⟨"java/lang/Object", "equals", "(Ljava/lang/Object;)Z"⟩ : MethodName)) (z := (⟨"java/lang/String", "equals", "(Ljava/lang/Object;)Z"⟩ : MethodName)) hown (mvT hZ (hw _ (List.mem_of_getElem? (i := 152) rfl))) (mvT hZ (hw _ (List.mem_of_getElem? (i := 116) rfl))) (own_nfo (args := #[]) (mvT hZ (hw _ (List.mem_of_getElem? (i := 94) rfl))) rfl) (mvT hZ (hw _ (List.mem_of_getElem? (i := 118) rfl))) (mvT hZ (hw _ (List.mem_of_getElem? (i := 119) rfl))) (by decide) (backOf (W := 0) (rm17 l Z a0 hw [] (A 0) (A 0) (own_ch 0) (own_ch 0) cs h0 hS0 hS0 S_CS hcs) hZ (hw _ (List.mem_of_getElem? (i := 120) rfl)) (hw _ (List.mem_of_getElem? (i := 7) rfl)) (by decide) (by decide)) q17a q17c (g := (mkF m 10 #[.val (.ref a), .val (.ref (A 0))] [(.ref (A 0)), (.ref (A 0))])) rfl (by rw [hml]; rfl) (Steps.refl _) (argsL := [(.ref (A 0))]) (rest := []) (lenOf pd_1 rfl) rfl (by show 2 * 0 + _ ≤ _; exact Nat.le_of_eq rfl) (hb hby d20_10) (fun _ _ => ⟨rfl, e16, (by decide : 0 + 0 ≤ _), (by decide : 0 + 0 ≤ _)⟩)
  dsimp only [Pt.U, Pt.locs, Pt.cells, Pt.slots] at X17 l17 y17 z17 st17 hQ17
  rw [l17, y17, z17] at X17
  clear l17 y17 z17
  obtain ⟨hv17, rfl, e17⟩ := hQ17
  rw [own_seq1 _ _] at hv17
  subst hv17
  refine Gl.tr ?_ st17
  show Gl _ _ _ _ (T17.setTop (mkF m 13 _ [(.int (1 : Int32))]))
  refine Gl.go ?_ (fun t k => XS.ifNo X17.here hx rfl (hb hby d20_13) rfl ((if0 _ _).trans (feq (by decide : ¬ ((1 : Int32) = (0 : Int32)))).1) k)
  show Gl _ _ _ _ (T17.setTop (mkF m 16 _ []))
  refine Gl.go ?_ (fun t k => XS.iconst X17.here hx rfl (hb hby d20_16) k)
  show Gl _ _ _ _ (T17.setTop (mkF m 17 _ [(.int (0 : Int32))]))
  obtain ⟨fs, hr, hrun, hended, hW, hsame⟩ := X17.leave (v := some (.int (0 : Int32))) (fun h => by rw [Bd.returns] at h; cases h) (BodyLoose.notSynchronized Bd)
  exact Gl.mk ⟨_, _, retI X17 hx Bd.returns (hb hby d20_17) hr, hrun, hended, _, _, rfl, ⟨congrArg (fun z => some (Value.int z)) (rfl).symm, rfl, e17⟩, ⟨_, rfl⟩, hW, hsame.mono (by decide) (by decide)⟩
def f_x12_1  : Int32 := (1 : Int32)
theorem ef_rm_x12_1 (m : MethodId) (x0 : Addr) (x1 : Addr) : entryFrame m #[(.ref x0), (.ref x1)] 2 = mkF m 0 #[.val (.ref x0), .val (.ref x1)] [] := by first | (simp [entryFrame, mkF, argsToLocals, Value.category]; done) | rfl
set_option maxRecDepth 65536 in
set_option maxHeartbeats 40000000 in
theorem rm_x12_1 (l : Launch) (Z : State) (a0 : Array Value) (hw : ∀ d ∈ tables_1, d.before a0 Z = true) (ws : List Jvm.Cond) (a : Addr) (A : Nat → Addr) (cs : Int32) (em : Addr) (h0 : Heap) (F_e0 : Fld Z h0 a "java/util/ImmutableCollections$List12" "e0" "Ljava/lang/Object;" (.ref (A 0))) (F_e1 : Fld Z h0 a "java/util/ImmutableCollections$List12" "e1" "Ljava/lang/Object;" (.ref (A 1))) (S_EM : Sta Z h0 "java/util/ImmutableCollections" "EMPTY" "Ljava/lang/Object;" (.ref em)) (hem : (A 1) ≠ em) (hS0 : StrIs Z h0 (A 0) (own_ch 0)) (hS1 : StrIs Z h0 (A 1) (own_ch 1)) (S_CS : Sta Z h0 "java/lang/String" "COMPACT_STRINGS" "Z" (.int cs)) (hcs : ¬ cs = 0) :
    MetFree l (⟨"java/util/ImmutableCollections$List12", "indexOf", "(Ljava/lang/Object;)I"⟩ : MethodName) (head1 (Jvm.Cond.code (⟨"java/util/ImmutableCollections$List12", "indexOf", "(Ljava/lang/Object;)I"⟩ : MethodName) jdk_44_method_6_code 2 (some .int) :: ws) ({ frames := 4, cells := 0, slots := 0, locals := 80 } : Room)) (fun aQ U => aQ = #[(.ref a), (.ref (A 1))] ∧ Z.Warmed39 U.vm ∧ U.heap = h0) (fun _ _ _ _ _ => True) (fun _ U o U' => ∃ vQ LQ, o = .returned vQ ∧ PQ (some (.int (f_x12_1 ))) h0 vQ U'.heap LQ ∧ FrameEnd U o U' LQ ({ frames := 4, cells := 0, slots := 0, locals := 80 } : Room).cells ({ frames := 4, cells := 0, slots := 0, locals := 80 } : Room).slots) := by
  refine MetFree.of_bodySF (plainFor_of_name pn_20) hisR ?_
  intro p e s m args below meth c s₁ Bd hml0 hP hK
  obtain ⟨rfl, hZ, hh⟩ := hP
  have hx := Bd.exec
  have hby := Bd.bytes
  have hml : c.maxLocals = 2 := hml0
  have hown : s.vm.findClass "java/util/ImmutableCollections$List12" = some m.cls := findClass_of_methodNamed Bd.named
  have hnm := (name_of_methodNamed Bd.named Bd.method).1
  have X0 : Stand p l e ({ frames := 4, cells := 0, slots := 0, locals := 80 } : Room) s m #[(.ref a), (.ref (A 1))] below meth c s₁ [] 0 0 := Stand.of_body Bd
  have e0 : s₁.heap = h0 := by rw [← hh, Bd.state]; rfl
  refine Gl.out ?_
  refine Gl.go ?_ (fun t k => castTop (ef_rm_x12_1 m a (A 1)) k)
  show Gl _ _ _ _ (s₁.setTop (mkF m 0 _ []))
  refine Gl.go ?_ (fun t k => XS.aloadN X0.here hx rfl (hb hby d20_0) rfl rfl k)
  show Gl _ _ _ _ (s₁.setTop (mkF m 1 #[.val (.ref a), .val (.ref (A 1))] [(.ref (A 1))]))
  obtain ⟨_, _, ⟨T18, L18, k18, n18⟩, -, X18, ⟨Lc18, hQ18, l18, y18, z18⟩, st18⟩ := Jvm.LawKit.callS X0 hx (y := (⟨"java/util/Objects", "requireNonNull", "(Ljava/lang/Object;)Ljava/lang/Object;"⟩ : MethodName)) hown (mvT hZ (hw _ (List.mem_of_getElem? (i := 141) rfl))) (mvT hZ (hw _ (List.mem_of_getElem? (i := 34) rfl))) (mvT hZ (hw _ (List.mem_of_getElem? (i := 35) rfl))) (mvT hZ (hw _ (List.mem_of_getElem? (i := 36) rfl))) (by decide) (backOf (W := 0) (rm5 l Z a0 hw [] (A 1) h0) hZ (hw _ (List.mem_of_getElem? (i := 36) rfl)) (hw _ (List.mem_of_getElem? (i := 35) rfl)) (by decide) (by decide)) (g := (mkF m 1 #[.val (.ref a), .val (.ref (A 1))] [(.ref (A 1))])) rfl (by rw [hml]; rfl) (argsL := [(.ref (A 1))]) (rest := []) (lenOf pd_2 rfl) rfl (by show 2 * 0 + _ ≤ _; exact Nat.le_of_eq rfl) (hb hby d20_1) (fun _ _ => ⟨rfl, e0, (by decide : 0 + 0 ≤ _), (by decide : 0 + 0 ≤ _)⟩)
  dsimp only [Pt.U, Pt.locs, Pt.cells, Pt.slots] at X18 l18 y18 z18 st18 hQ18
  rw [l18, y18, z18] at X18
  clear l18 y18 z18
  obtain ⟨rfl, rfl, e18⟩ := hQ18
  refine Gl.go ?_ st18
  show Gl _ _ _ _ (T18.setTop (mkF m 4 _ [(.ref (A 1))]))
  refine Gl.go ?_ (fun t k => XS.pop X18.here hx rfl (hb hby d20_4) rfl rfl k)
  show Gl _ _ _ _ (T18.setTop (mkF m 5 _ []))
  refine Gl.go ?_ (fun t k => XS.aloadN X18.here hx rfl (hb hby d20_5) rfl rfl k)
  show Gl _ _ _ _ (T18.setTop (mkF m 6 _ [(.ref (A 1))]))
  refine Gl.go ?_ (fun t k => XS.aloadN X18.here hx rfl (hb hby d20_6) rfl rfl k)
  show Gl _ _ _ _ (T18.setTop (mkF m 7 #[.val (.ref a), .val (.ref (A 1))] [(.ref a), (.ref (A 1))]))
  obtain ⟨T19, X19, e19, st19⟩ := getF X18 hx hZ hown (host := "") (Or.inl (hw _ (List.mem_of_getElem? (i := 142) rfl))) Via.refl e18 F_e0 (g := (mkF m 7 #[.val (.ref a), .val (.ref (A 1))] [(.ref a), (.ref (A 1))])) rfl rfl (hb hby d20_7)
  refine Gl.go ?_ st19
  show Gl _ _ _ _ (T19.setTop (mkF m 10 #[.val (.ref a), .val (.ref (A 1))] [(.ref (A 0)), (.ref (A 1))]))
  obtain ⟨cq20, kq20, q20a, q20b, q20c⟩ := isOf hZ e19 hS1.1
  obtain ⟨_, _, ⟨T20, L20, k20, n20⟩, -, X20, ⟨Lc20, hQ20, l20, y20, z20⟩, st20⟩ := X19.virtualBack hx (y := (⟨"java/lang/Object", "equals", "(Ljava/lang/Object;)Z"⟩ : MethodName)) (z := (⟨"java/lang/String", "equals", "(Ljava/lang/Object;)Z"⟩ : MethodName)) hown (mvT hZ (hw _ (List.mem_of_getElem? (i := 152) rfl))) (mvT hZ (hw _ (List.mem_of_getElem? (i := 116) rfl))) (own_nfo (args := #[]) (mvT hZ (hw _ (List.mem_of_getElem? (i := 94) rfl))) rfl) (mvT hZ (hw _ (List.mem_of_getElem? (i := 118) rfl))) (mvT hZ (hw _ (List.mem_of_getElem? (i := 119) rfl))) (by decide) (backOf (W := 0) (rm17 l Z a0 hw [] (A 1) (A 0) (own_ch 1) (own_ch 0) cs h0 hS1 hS0 S_CS hcs) hZ (hw _ (List.mem_of_getElem? (i := 120) rfl)) (hw _ (List.mem_of_getElem? (i := 7) rfl)) (by decide) (by decide)) q20a q20c (g := (mkF m 10 #[.val (.ref a), .val (.ref (A 1))] [(.ref (A 0)), (.ref (A 1))])) rfl (by rw [hml]; rfl) (Steps.refl _) (argsL := [(.ref (A 0))]) (rest := []) (lenOf pd_1 rfl) rfl (by show 2 * 0 + _ ≤ _; exact Nat.le_of_eq rfl) (hb hby d20_10) (fun _ _ => ⟨rfl, e19, (by decide : 0 + 0 ≤ _), (by decide : 0 + 0 ≤ _)⟩)
  dsimp only [Pt.U, Pt.locs, Pt.cells, Pt.slots] at X20 l20 y20 z20 st20 hQ20
  rw [l20, y20, z20] at X20
  clear l20 y20 z20
  obtain ⟨hv20, rfl, e20⟩ := hQ20
  rw [own_seq0 (StrIs.ne hS1 hS0 (by decide)) (by decide)] at hv20
  subst hv20
  refine Gl.tr ?_ st20
  show Gl _ _ _ _ (T20.setTop (mkF m 13 _ [(.int (0 : Int32))]))
  refine Gl.go ?_ (fun t k => XS.ifYes X20.here hx rfl (pc0 := 13) (pc' := 18) rfl (hb hby d20_13) rfl ((if0 _ _).trans (teq (by decide : (0 : Int32) = (0 : Int32))).1) (by decide) (by decide) k)
  show Gl _ _ _ _ (T20.setTop (mkF m 18 _ []))
  refine Gl.go ?_ (fun t k => XS.aloadN X20.here hx rfl (hb hby d20_18) rfl rfl k)
  show Gl _ _ _ _ (T20.setTop (mkF m 19 #[.val (.ref a), .val (.ref (A 1))] [(.ref a)]))
  obtain ⟨T21, X21, e21, st21⟩ := getF X20 hx hZ hown (host := "") (Or.inl (hw _ (List.mem_of_getElem? (i := 144) rfl))) Via.refl e20 F_e1 (g := (mkF m 19 #[.val (.ref a), .val (.ref (A 1))] [(.ref a)])) rfl rfl (hb hby d20_19)
  refine Gl.go ?_ st21
  show Gl _ _ _ _ (T21.setTop (mkF m 22 #[.val (.ref a), .val (.ref (A 1))] [(.ref (A 1))]))
  obtain ⟨T22, X22, e22, st22⟩ := getS2 X21 hx hZ hown (Or.inr (hw _ (List.mem_of_getElem? (i := 153) rfl))) Via.refl e21 S_EM (g := (mkF m 22 #[.val (.ref a), .val (.ref (A 1))] [(.ref (A 1))])) rfl (hb hby d20_22)
  refine Gl.go ?_ st22
  show Gl _ _ _ _ (T22.setTop (mkF m 25 #[.val (.ref a), .val (.ref (A 1))] [(.ref em), (.ref (A 1))]))
  refine Gl.go ?_ (fun t k => Jvm.RoadKit.acmp (g := (mkF m 25 #[.val (.ref a), .val (.ref (A 1))] [(.ref em), (.ref (A 1))])) X22 hx rfl rfl rfl (pc0 := 25) (pc' := 28) (same := false) rfl (hb hby d20_25) rfl (decide_eq_false fun q => hem (Value.ref.inj q)) (by decide) (by decide) k)
  show Gl _ _ _ _ (T22.setTop (mkF m 28 _ []))
  refine Gl.go ?_ (fun t k => XS.aloadN X22.here hx rfl (hb hby d20_28) rfl rfl k)
  show Gl _ _ _ _ (T22.setTop (mkF m 29 _ [(.ref (A 1))]))
  refine Gl.go ?_ (fun t k => XS.aloadN X22.here hx rfl (hb hby d20_29) rfl rfl k)
  show Gl _ _ _ _ (T22.setTop (mkF m 30 #[.val (.ref a), .val (.ref (A 1))] [(.ref a), (.ref (A 1))]))
  obtain ⟨T23, X23, e23, st23⟩ := getF X22 hx hZ hown (host := "") (Or.inl (hw _ (List.mem_of_getElem? (i := 144) rfl))) Via.refl e22 F_e1 (g := (mkF m 30 #[.val (.ref a), .val (.ref (A 1))] [(.ref a), (.ref (A 1))])) rfl rfl (hb hby d20_30)
  refine Gl.go ?_ st23
  show Gl _ _ _ _ (T23.setTop (mkF m 33 #[.val (.ref a), .val (.ref (A 1))] [(.ref (A 1)), (.ref (A 1))]))
  obtain ⟨cq24, kq24, q24a, q24b, q24c⟩ := isOf hZ e23 hS1.1
  obtain ⟨_, _, ⟨T24, L24, k24, n24⟩, -, X24, ⟨Lc24, hQ24, l24, y24, z24⟩, st24⟩ := X23.virtualBack hx (y := (⟨"java/lang/Object", "equals", "(Ljava/lang/Object;)Z"⟩ : MethodName)) (z := (⟨"java/lang/String", "equals", "(Ljava/lang/Object;)Z"⟩ : MethodName)) hown (mvT hZ (hw _ (List.mem_of_getElem? (i := 152) rfl))) (mvT hZ (hw _ (List.mem_of_getElem? (i := 116) rfl))) (own_nfo (args := #[]) (mvT hZ (hw _ (List.mem_of_getElem? (i := 94) rfl))) rfl) (mvT hZ (hw _ (List.mem_of_getElem? (i := 118) rfl))) (mvT hZ (hw _ (List.mem_of_getElem? (i := 119) rfl))) (by decide) (backOf (W := 0) (rm17 l Z a0 hw [] (A 1) (A 1) (own_ch 1) (own_ch 1) cs h0 hS1 hS1 S_CS hcs) hZ (hw _ (List.mem_of_getElem? (i := 120) rfl)) (hw _ (List.mem_of_getElem? (i := 7) rfl)) (by decide) (by decide)) q24a q24c (g := (mkF m 33 #[.val (.ref a), .val (.ref (A 1))] [(.ref (A 1)), (.ref (A 1))])) rfl (by rw [hml]; rfl) (Steps.refl _) (argsL := [(.ref (A 1))]) (rest := []) (lenOf pd_1 rfl) rfl (by show 2 * 0 + _ ≤ _; exact Nat.le_of_eq rfl) (hb hby d20_33) (fun _ _ => ⟨rfl, e23, (by decide : 0 + 0 ≤ _), (by decide : 0 + 0 ≤ _)⟩)
  dsimp only [Pt.U, Pt.locs, Pt.cells, Pt.slots] at X24 l24 y24 z24 st24 hQ24
  rw [l24, y24, z24] at X24
  clear l24 y24 z24
  obtain ⟨hv24, rfl, e24⟩ := hQ24
  rw [own_seq1 _ _] at hv24
  subst hv24
  refine Gl.tr ?_ st24
  show Gl _ _ _ _ (T24.setTop (mkF m 36 _ [(.int (1 : Int32))]))
  refine Gl.go ?_ (fun t k => XS.ifNo X24.here hx rfl (hb hby d20_36) rfl ((if0 _ _).trans (feq (by decide : ¬ ((1 : Int32) = (0 : Int32)))).1) k)
  show Gl _ _ _ _ (T24.setTop (mkF m 39 _ []))
  refine Gl.go ?_ (fun t k => XS.iconst X24.here hx rfl (hb hby d20_39) k)
  show Gl _ _ _ _ (T24.setTop (mkF m 40 _ [(.int (1 : Int32))]))
  obtain ⟨fs, hr, hrun, hended, hW, hsame⟩ := X24.leave (v := some (.int (1 : Int32))) (fun h => by rw [Bd.returns] at h; cases h) (BodyLoose.notSynchronized Bd)
  exact Gl.mk ⟨_, _, retI X24 hx Bd.returns (hb hby d20_40) hr, hrun, hended, _, _, rfl, ⟨congrArg (fun z => some (Value.int z)) (rfl).symm, rfl, e24⟩, ⟨_, rfl⟩, hW, hsame.mono (by decide) (by decide)⟩
theorem d15_0 : decode jdk_45_method_9_code 0 = .ok (.aload_n 0, 1) := by decide +kernel
theorem d15_1 : decode jdk_45_method_9_code 1 = .ok (.getfield 13, 3) := by decide +kernel
theorem d15_4 : decode jdk_45_method_9_code 4 = .ok (.ifCond .ne 15, 3) := by decide +kernel
theorem d15_7 : decode jdk_45_method_9_code 7 = .ok (.aload_n 1, 1) := by decide +kernel
theorem d15_8 : decode jdk_45_method_9_code 8 = .ok (.ifnonnull 11, 3) := by decide +kernel
theorem d15_11 : decode jdk_45_method_9_code 11 = .ok (.new 50, 3) := by decide +kernel
theorem d15_14 : decode jdk_45_method_9_code 14 = .ok (.dup, 1) := by decide +kernel
theorem d15_15 : decode jdk_45_method_9_code 15 = .ok (.invokespecial 52, 3) := by decide +kernel
theorem d15_18 : decode jdk_45_method_9_code 18 = .ok (.athrow, 1) := by decide +kernel
theorem d15_19 : decode jdk_45_method_9_code 19 = .ok (.aload_n 0, 1) := by decide +kernel
theorem d15_20 : decode jdk_45_method_9_code 20 = .ok (.getfield 7, 3) := by decide +kernel
theorem d15_23 : decode jdk_45_method_9_code 23 = .ok (.astore_n 2, 1) := by decide +kernel
theorem d15_24 : decode jdk_45_method_9_code 24 = .ok (.iconst 0, 1) := by decide +kernel
theorem d15_25 : decode jdk_45_method_9_code 25 = .ok (.istore_n 3, 1) := by decide +kernel
theorem d15_26 : decode jdk_45_method_9_code 26 = .ok (.iload_n 3, 1) := by decide +kernel
theorem d15_27 : decode jdk_45_method_9_code 27 = .ok (.aload_n 2, 1) := by decide +kernel
theorem d15_28 : decode jdk_45_method_9_code 28 = .ok (.arraylength, 1) := by decide +kernel
theorem d15_29 : decode jdk_45_method_9_code 29 = .ok (.if_icmp .ge 21, 3) := by decide +kernel
theorem d15_32 : decode jdk_45_method_9_code 32 = .ok (.aload_n 1, 1) := by decide +kernel
theorem d15_33 : decode jdk_45_method_9_code 33 = .ok (.aload_n 2, 1) := by decide +kernel
theorem d15_34 : decode jdk_45_method_9_code 34 = .ok (.iload_n 3, 1) := by decide +kernel
theorem d15_35 : decode jdk_45_method_9_code 35 = .ok (.aaload, 1) := by decide +kernel
theorem d15_36 : decode jdk_45_method_9_code 36 = .ok (.invokestatic 53, 3) := by decide +kernel
theorem d15_39 : decode jdk_45_method_9_code 39 = .ok (.ifCond .eq 5, 3) := by decide +kernel
theorem d15_42 : decode jdk_45_method_9_code 42 = .ok (.iload_n 3, 1) := by decide +kernel
theorem d15_43 : decode jdk_45_method_9_code 43 = .ok (.ireturn, 1) := by decide +kernel
theorem d15_44 : decode jdk_45_method_9_code 44 = .ok (.iinc 3 1, 3) := by decide +kernel
theorem d15_47 : decode jdk_45_method_9_code 47 = .ok (.goto (-21), 3) := by decide +kernel
theorem d15_50 : decode jdk_45_method_9_code 50 = .ok (.iconst (-1), 1) := by decide +kernel
theorem d15_51 : decode jdk_45_method_9_code 51 = .ok (.ireturn, 1) := by decide +kernel
theorem pn_15 : plainName "java/util/ImmutableCollections$ListN" = true := by first | (simp [plainName, overriddenIn]; done) | decide +kernel
theorem pd_3 : parseMethodDescriptor "(Ljava/lang/Object;Ljava/lang/Object;)Z" = some ⟨[(.object "java/lang/Object"), (.object "java/lang/Object")], some .boolean⟩ := by decide +kernel
def f_xN_0  : Int32 := (0 : Int32)
theorem ef_rm_xN_0 (m : MethodId) (x0 : Addr) (x1 : Addr) : entryFrame m #[(.ref x0), (.ref x1)] 4 = mkF m 0 #[.val (.ref x0), .val (.ref x1), .unset, .unset] [] := by first | (simp [entryFrame, mkF, argsToLocals, Value.category]; done) | rfl
set_option maxRecDepth 65536 in
set_option maxHeartbeats 40000000 in
theorem rm_xN_0 (l : Launch) (Z : State) (a0 : Array Value) (hw : ∀ d ∈ tables_1, d.before a0 Z = true) (ws : List Jvm.Cond) (a : Addr) (A : Nat → Addr) (cs : Int32) (ea : Addr) (N : Int32) (h0 : Heap) (F_el : Fld Z h0 a "java/util/ImmutableCollections$ListN" "elements" "[Ljava/lang/Object;" (.ref ea)) (F_an : Fld Z h0 a "java/util/ImmutableCollections$ListN" "allowNulls" "Z" (.int 0)) (hRA : RA Z h0 ea (.object "java/lang/Object") N A) (hN : (0 : Int) < N.toInt) (hS0 : StrIs Z h0 (A 0) (own_ch 0)) (S_CS : Sta Z h0 "java/lang/String" "COMPACT_STRINGS" "Z" (.int cs)) (hcs : ¬ cs = 0) :
    MetFree l (⟨"java/util/ImmutableCollections$ListN", "indexOf", "(Ljava/lang/Object;)I"⟩ : MethodName) (head1 (Jvm.Cond.code (⟨"java/util/ImmutableCollections$ListN", "indexOf", "(Ljava/lang/Object;)I"⟩ : MethodName) jdk_45_method_9_code 4 (some .int) :: ws) ({ frames := 4, cells := 0, slots := 0, locals := 80 } : Room)) (fun aQ U => aQ = #[(.ref a), (.ref (A 0))] ∧ Z.Warmed39 U.vm ∧ U.heap = h0) (fun _ _ _ _ _ => True) (fun _ U o U' => ∃ vQ LQ, o = .returned vQ ∧ PQ (some (.int (f_xN_0 ))) h0 vQ U'.heap LQ ∧ FrameEnd U o U' LQ ({ frames := 4, cells := 0, slots := 0, locals := 80 } : Room).cells ({ frames := 4, cells := 0, slots := 0, locals := 80 } : Room).slots) := by
  refine MetFree.of_bodySF (plainFor_of_name pn_15) hisR ?_
  intro p e s m args below meth c s₁ Bd hml0 hP hK
  obtain ⟨rfl, hZ, hh⟩ := hP
  have hx := Bd.exec
  have hby := Bd.bytes
  have hml : c.maxLocals = 4 := hml0
  have hown : s.vm.findClass "java/util/ImmutableCollections$ListN" = some m.cls := findClass_of_methodNamed Bd.named
  have hnm := (name_of_methodNamed Bd.named Bd.method).1
  have X0 : Stand p l e ({ frames := 4, cells := 0, slots := 0, locals := 80 } : Room) s m #[(.ref a), (.ref (A 0))] below meth c s₁ [] 0 0 := Stand.of_body Bd
  have e0 : s₁.heap = h0 := by rw [← hh, Bd.state]; rfl
  refine Gl.out ?_
  refine Gl.go ?_ (fun t k => castTop (ef_rm_xN_0 m a (A 0)) k)
  show Gl _ _ _ _ (s₁.setTop (mkF m 0 _ []))
  refine Gl.go ?_ (fun t k => XS.aloadN X0.here hx rfl (hb hby d15_0) rfl rfl k)
  show Gl _ _ _ _ (s₁.setTop (mkF m 1 #[.val (.ref a), .val (.ref (A 0)), .unset, .unset] [(.ref a)]))
  obtain ⟨T25, X25, e25, st25⟩ := getF X0 hx hZ hown (host := "") (Or.inl (hw _ (List.mem_of_getElem? (i := 68) rfl))) Via.refl e0 F_an (g := (mkF m 1 #[.val (.ref a), .val (.ref (A 0)), .unset, .unset] [(.ref a)])) rfl rfl (hb hby d15_1)
  refine Gl.go ?_ st25
  show Gl _ _ _ _ (T25.setTop (mkF m 4 _ [(.int (0 : Int32))]))
  refine Gl.go ?_ (fun t k => XS.ifNo X25.here hx rfl (hb hby d15_4) rfl ((if0 _ _).trans (teq (by decide : (0 : Int32) = (0 : Int32))).2) k)
  show Gl _ _ _ _ (T25.setTop (mkF m 7 _ []))
  refine Gl.go ?_ (fun t k => XS.aloadN X25.here hx rfl (hb hby d15_7) rfl rfl k)
  show Gl _ _ _ _ (T25.setTop (mkF m 8 #[.val (.ref a), .val (.ref (A 0)), .unset, .unset] [(.ref (A 0))]))
  refine Gl.go ?_ (fun t k => XS.ifnonnullYes X25.here hx rfl (pc0 := 8) (pc' := 19) rfl (hb hby d15_8) rfl (by decide) (by decide) k)
  show Gl _ _ _ _ (T25.setTop (mkF m 19 _ []))
  refine Gl.go ?_ (fun t k => XS.aloadN X25.here hx rfl (hb hby d15_19) rfl rfl k)
  show Gl _ _ _ _ (T25.setTop (mkF m 20 #[.val (.ref a), .val (.ref (A 0)), .unset, .unset] [(.ref a)]))
  obtain ⟨T26, X26, e26, st26⟩ := getF X25 hx hZ hown (host := "") (Or.inl (hw _ (List.mem_of_getElem? (i := 66) rfl))) Via.refl e25 F_el (g := (mkF m 20 #[.val (.ref a), .val (.ref (A 0)), .unset, .unset] [(.ref a)])) rfl rfl (hb hby d15_20)
  refine Gl.go ?_ st26
  show Gl _ _ _ _ (T26.setTop (mkF m 23 #[.val (.ref a), .val (.ref (A 0)), .unset, .unset] [(.ref ea)]))
  refine Gl.go ?_ (fun t k => XS.astoreN X26.here hx rfl (hb hby d15_23) rfl rfl (l' := #[.val (.ref a), .val (.ref (A 0)), .val (.ref ea), .unset]) rfl k)
  show Gl _ _ _ _ (T26.setTop (mkF m 24 _ []))
  refine Gl.go ?_ (fun t k => XS.iconst X26.here hx rfl (hb hby d15_24) k)
  show Gl _ _ _ _ (T26.setTop (mkF m 25 #[.val (.ref a), .val (.ref (A 0)), .val (.ref ea), .unset] [(.int (0 : Int32))]))
  refine Gl.go ?_ (fun t k => XS.istoreN X26.here hx rfl (hb hby d15_25) rfl (l' := #[.val (.ref a), .val (.ref (A 0)), .val (.ref ea), .val (.int (0 : Int32))]) rfl k)
  show Gl _ _ _ _ (T26.setTop (mkF m 26 _ []))
  refine Gl.go ?_ (fun t k => XS.iloadN X26.here hx rfl (hb hby d15_26) rfl k)
  show Gl _ _ _ _ (T26.setTop (mkF m 27 _ [(.int (0 : Int32))]))
  refine Gl.go ?_ (fun t k => XS.aloadN X26.here hx rfl (hb hby d15_27) rfl rfl k)
  show Gl _ _ _ _ (T26.setTop (mkF m 28 #[.val (.ref a), .val (.ref (A 0)), .val (.ref ea), .val (.int (0 : Int32))] [(.ref ea), (.int (0 : Int32))]))
  refine Gl.go ?_ (RA.len hRA X26 hx hZ e26 (g := (mkF m 28 #[.val (.ref a), .val (.ref (A 0)), .val (.ref ea), .val (.int (0 : Int32))] [(.ref ea), (.int (0 : Int32))])) rfl rfl (hb hby d15_28))
  show Gl _ _ _ _ (T26.setTop (mkF m 29 _ [(.int N), (.int (0 : Int32))]))
  refine Gl.go ?_ (fun t k => XS.icmpNo X26.here hx rfl (hb hby d15_29) rfl (tlt (iv_gt' (k := 0) rfl (by omega))).2.1 k)
  show Gl _ _ _ _ (T26.setTop (mkF m 32 _ []))
  refine Gl.go ?_ (fun t k => XS.aloadN X26.here hx rfl (hb hby d15_32) rfl rfl k)
  show Gl _ _ _ _ (T26.setTop (mkF m 33 _ [(.ref (A 0))]))
  refine Gl.go ?_ (fun t k => XS.aloadN X26.here hx rfl (hb hby d15_33) rfl rfl k)
  show Gl _ _ _ _ (T26.setTop (mkF m 34 _ [(.ref ea), (.ref (A 0))]))
  refine Gl.go ?_ (fun t k => XS.iloadN X26.here hx rfl (hb hby d15_34) rfl k)
  show Gl _ _ _ _ (T26.setTop (mkF m 35 #[.val (.ref a), .val (.ref (A 0)), .val (.ref ea), .val (.int (0 : Int32))] [(.int (0 : Int32)), (.ref ea), (.ref (A 0))]))
  refine Gl.go ?_ (RA.rd hRA rfl X26 hx hZ e26 (by decide) (iv_gt' (k := 0) rfl (by omega)) (g := (mkF m 35 #[.val (.ref a), .val (.ref (A 0)), .val (.ref ea), .val (.int (0 : Int32))] [(.int (0 : Int32)), (.ref ea), (.ref (A 0))])) rfl rfl (hb hby d15_35))
  show Gl _ _ _ _ (T26.setTop (mkF m 36 #[.val (.ref a), .val (.ref (A 0)), .val (.ref ea), .val (.int (0 : Int32))] [(.ref (A 0)), (.ref (A 0))]))
  obtain ⟨_, _, ⟨T27, L27, k27, n27⟩, -, X27, ⟨Lc27, hQ27, l27, y27, z27⟩, st27⟩ := Jvm.LawKit.callS X26 hx (y := (⟨"java/util/Objects", "equals", "(Ljava/lang/Object;Ljava/lang/Object;)Z"⟩ : MethodName)) hown (mvT hZ (hw _ (List.mem_of_getElem? (i := 112) rfl))) (mvT hZ (hw _ (List.mem_of_getElem? (i := 113) rfl))) (mvT hZ (hw _ (List.mem_of_getElem? (i := 35) rfl))) (mvT hZ (hw _ (List.mem_of_getElem? (i := 114) rfl))) (by decide) (backOf (W := 0) (rm16 l Z a0 hw [] (A 0) (A 0) (own_ch 0) (own_ch 0) cs h0 hS0 hS0 S_CS hcs) hZ (hw _ (List.mem_of_getElem? (i := 114) rfl)) (hw _ (List.mem_of_getElem? (i := 35) rfl)) (by decide) (by decide)) (g := (mkF m 36 #[.val (.ref a), .val (.ref (A 0)), .val (.ref ea), .val (.int (0 : Int32))] [(.ref (A 0)), (.ref (A 0))])) rfl (by rw [hml]; rfl) (argsL := [(.ref (A 0)), (.ref (A 0))]) (rest := []) (lenOf pd_3 rfl) rfl (by show 2 * 0 + _ ≤ _; exact Nat.le_of_eq rfl) (hb hby d15_36) (fun _ _ => ⟨rfl, e26, (by decide : 0 + 0 ≤ _), (by decide : 0 + 0 ≤ _)⟩)
  dsimp only [Pt.U, Pt.locs, Pt.cells, Pt.slots] at X27 l27 y27 z27 st27 hQ27
  rw [l27, y27, z27] at X27
  clear l27 y27 z27
  obtain ⟨hv27, rfl, e27⟩ := hQ27
  rw [own_oeq1 _ _] at hv27
  subst hv27
  refine Gl.go ?_ st27
  show Gl _ _ _ _ (T27.setTop (mkF m 39 _ [(.int (1 : Int32))]))
  refine Gl.go ?_ (fun t k => XS.ifNo X27.here hx rfl (hb hby d15_39) rfl ((if0 _ _).trans (feq (by decide : ¬ ((1 : Int32) = (0 : Int32)))).1) k)
  show Gl _ _ _ _ (T27.setTop (mkF m 42 _ []))
  refine Gl.go ?_ (fun t k => XS.iloadN X27.here hx rfl (hb hby d15_42) rfl k)
  show Gl _ _ _ _ (T27.setTop (mkF m 43 _ [(.int (0 : Int32))]))
  obtain ⟨fs, hr, hrun, hended, hW, hsame⟩ := X27.leave (v := some (.int (0 : Int32))) (fun h => by rw [Bd.returns] at h; cases h) (BodyLoose.notSynchronized Bd)
  exact Gl.mk ⟨_, _, retI X27 hx Bd.returns (hb hby d15_43) hr, hrun, hended, _, _, rfl, ⟨congrArg (fun z => some (Value.int z)) (rfl).symm, rfl, e27⟩, ⟨_, rfl⟩, hW, hsame.mono (by decide) (by decide)⟩
def f_xN_1  : Int32 := (1 : Int32)
theorem ef_rm_xN_1 (m : MethodId) (x0 : Addr) (x1 : Addr) : entryFrame m #[(.ref x0), (.ref x1)] 4 = mkF m 0 #[.val (.ref x0), .val (.ref x1), .unset, .unset] [] := by first | (simp [entryFrame, mkF, argsToLocals, Value.category]; done) | rfl
set_option maxRecDepth 65536 in
set_option maxHeartbeats 40000000 in
theorem rm_xN_1 (l : Launch) (Z : State) (a0 : Array Value) (hw : ∀ d ∈ tables_1, d.before a0 Z = true) (ws : List Jvm.Cond) (a : Addr) (A : Nat → Addr) (cs : Int32) (ea : Addr) (N : Int32) (h0 : Heap) (F_el : Fld Z h0 a "java/util/ImmutableCollections$ListN" "elements" "[Ljava/lang/Object;" (.ref ea)) (F_an : Fld Z h0 a "java/util/ImmutableCollections$ListN" "allowNulls" "Z" (.int 0)) (hRA : RA Z h0 ea (.object "java/lang/Object") N A) (hN : (1 : Int) < N.toInt) (hS0 : StrIs Z h0 (A 0) (own_ch 0)) (hS1 : StrIs Z h0 (A 1) (own_ch 1)) (S_CS : Sta Z h0 "java/lang/String" "COMPACT_STRINGS" "Z" (.int cs)) (hcs : ¬ cs = 0) :
    MetFree l (⟨"java/util/ImmutableCollections$ListN", "indexOf", "(Ljava/lang/Object;)I"⟩ : MethodName) (head1 (Jvm.Cond.code (⟨"java/util/ImmutableCollections$ListN", "indexOf", "(Ljava/lang/Object;)I"⟩ : MethodName) jdk_45_method_9_code 4 (some .int) :: ws) ({ frames := 4, cells := 0, slots := 0, locals := 80 } : Room)) (fun aQ U => aQ = #[(.ref a), (.ref (A 1))] ∧ Z.Warmed39 U.vm ∧ U.heap = h0) (fun _ _ _ _ _ => True) (fun _ U o U' => ∃ vQ LQ, o = .returned vQ ∧ PQ (some (.int (f_xN_1 ))) h0 vQ U'.heap LQ ∧ FrameEnd U o U' LQ ({ frames := 4, cells := 0, slots := 0, locals := 80 } : Room).cells ({ frames := 4, cells := 0, slots := 0, locals := 80 } : Room).slots) := by
  refine MetFree.of_bodySF (plainFor_of_name pn_15) hisR ?_
  intro p e s m args below meth c s₁ Bd hml0 hP hK
  obtain ⟨rfl, hZ, hh⟩ := hP
  have hx := Bd.exec
  have hby := Bd.bytes
  have hml : c.maxLocals = 4 := hml0
  have hown : s.vm.findClass "java/util/ImmutableCollections$ListN" = some m.cls := findClass_of_methodNamed Bd.named
  have hnm := (name_of_methodNamed Bd.named Bd.method).1
  have X0 : Stand p l e ({ frames := 4, cells := 0, slots := 0, locals := 80 } : Room) s m #[(.ref a), (.ref (A 1))] below meth c s₁ [] 0 0 := Stand.of_body Bd
  have e0 : s₁.heap = h0 := by rw [← hh, Bd.state]; rfl
  refine Gl.out ?_
  refine Gl.go ?_ (fun t k => castTop (ef_rm_xN_1 m a (A 1)) k)
  show Gl _ _ _ _ (s₁.setTop (mkF m 0 _ []))
  refine Gl.go ?_ (fun t k => XS.aloadN X0.here hx rfl (hb hby d15_0) rfl rfl k)
  show Gl _ _ _ _ (s₁.setTop (mkF m 1 #[.val (.ref a), .val (.ref (A 1)), .unset, .unset] [(.ref a)]))
  obtain ⟨T28, X28, e28, st28⟩ := getF X0 hx hZ hown (host := "") (Or.inl (hw _ (List.mem_of_getElem? (i := 68) rfl))) Via.refl e0 F_an (g := (mkF m 1 #[.val (.ref a), .val (.ref (A 1)), .unset, .unset] [(.ref a)])) rfl rfl (hb hby d15_1)
  refine Gl.go ?_ st28
  show Gl _ _ _ _ (T28.setTop (mkF m 4 _ [(.int (0 : Int32))]))
  refine Gl.go ?_ (fun t k => XS.ifNo X28.here hx rfl (hb hby d15_4) rfl ((if0 _ _).trans (teq (by decide : (0 : Int32) = (0 : Int32))).2) k)
  show Gl _ _ _ _ (T28.setTop (mkF m 7 _ []))
  refine Gl.go ?_ (fun t k => XS.aloadN X28.here hx rfl (hb hby d15_7) rfl rfl k)
  show Gl _ _ _ _ (T28.setTop (mkF m 8 #[.val (.ref a), .val (.ref (A 1)), .unset, .unset] [(.ref (A 1))]))
  refine Gl.go ?_ (fun t k => XS.ifnonnullYes X28.here hx rfl (pc0 := 8) (pc' := 19) rfl (hb hby d15_8) rfl (by decide) (by decide) k)
  show Gl _ _ _ _ (T28.setTop (mkF m 19 _ []))
  refine Gl.go ?_ (fun t k => XS.aloadN X28.here hx rfl (hb hby d15_19) rfl rfl k)
  show Gl _ _ _ _ (T28.setTop (mkF m 20 #[.val (.ref a), .val (.ref (A 1)), .unset, .unset] [(.ref a)]))
  obtain ⟨T29, X29, e29, st29⟩ := getF X28 hx hZ hown (host := "") (Or.inl (hw _ (List.mem_of_getElem? (i := 66) rfl))) Via.refl e28 F_el (g := (mkF m 20 #[.val (.ref a), .val (.ref (A 1)), .unset, .unset] [(.ref a)])) rfl rfl (hb hby d15_20)
  refine Gl.go ?_ st29
  show Gl _ _ _ _ (T29.setTop (mkF m 23 #[.val (.ref a), .val (.ref (A 1)), .unset, .unset] [(.ref ea)]))
  refine Gl.go ?_ (fun t k => XS.astoreN X29.here hx rfl (hb hby d15_23) rfl rfl (l' := #[.val (.ref a), .val (.ref (A 1)), .val (.ref ea), .unset]) rfl k)
  show Gl _ _ _ _ (T29.setTop (mkF m 24 _ []))
  refine Gl.go ?_ (fun t k => XS.iconst X29.here hx rfl (hb hby d15_24) k)
  show Gl _ _ _ _ (T29.setTop (mkF m 25 #[.val (.ref a), .val (.ref (A 1)), .val (.ref ea), .unset] [(.int (0 : Int32))]))
  refine Gl.go ?_ (fun t k => XS.istoreN X29.here hx rfl (hb hby d15_25) rfl (l' := #[.val (.ref a), .val (.ref (A 1)), .val (.ref ea), .val (.int (0 : Int32))]) rfl k)
  show Gl _ _ _ _ (T29.setTop (mkF m 26 _ []))
  refine Gl.go ?_ (fun t k => XS.iloadN X29.here hx rfl (hb hby d15_26) rfl k)
  show Gl _ _ _ _ (T29.setTop (mkF m 27 _ [(.int (0 : Int32))]))
  refine Gl.go ?_ (fun t k => XS.aloadN X29.here hx rfl (hb hby d15_27) rfl rfl k)
  show Gl _ _ _ _ (T29.setTop (mkF m 28 #[.val (.ref a), .val (.ref (A 1)), .val (.ref ea), .val (.int (0 : Int32))] [(.ref ea), (.int (0 : Int32))]))
  refine Gl.go ?_ (RA.len hRA X29 hx hZ e29 (g := (mkF m 28 #[.val (.ref a), .val (.ref (A 1)), .val (.ref ea), .val (.int (0 : Int32))] [(.ref ea), (.int (0 : Int32))])) rfl rfl (hb hby d15_28))
  show Gl _ _ _ _ (T29.setTop (mkF m 29 _ [(.int N), (.int (0 : Int32))]))
  refine Gl.go ?_ (fun t k => XS.icmpNo X29.here hx rfl (hb hby d15_29) rfl (tlt (iv_gt' (k := 0) rfl (by omega))).2.1 k)
  show Gl _ _ _ _ (T29.setTop (mkF m 32 _ []))
  refine Gl.go ?_ (fun t k => XS.aloadN X29.here hx rfl (hb hby d15_32) rfl rfl k)
  show Gl _ _ _ _ (T29.setTop (mkF m 33 _ [(.ref (A 1))]))
  refine Gl.go ?_ (fun t k => XS.aloadN X29.here hx rfl (hb hby d15_33) rfl rfl k)
  show Gl _ _ _ _ (T29.setTop (mkF m 34 _ [(.ref ea), (.ref (A 1))]))
  refine Gl.go ?_ (fun t k => XS.iloadN X29.here hx rfl (hb hby d15_34) rfl k)
  show Gl _ _ _ _ (T29.setTop (mkF m 35 #[.val (.ref a), .val (.ref (A 1)), .val (.ref ea), .val (.int (0 : Int32))] [(.int (0 : Int32)), (.ref ea), (.ref (A 1))]))
  refine Gl.go ?_ (RA.rd hRA rfl X29 hx hZ e29 (by decide) (iv_gt' (k := 0) rfl (by omega)) (g := (mkF m 35 #[.val (.ref a), .val (.ref (A 1)), .val (.ref ea), .val (.int (0 : Int32))] [(.int (0 : Int32)), (.ref ea), (.ref (A 1))])) rfl rfl (hb hby d15_35))
  show Gl _ _ _ _ (T29.setTop (mkF m 36 #[.val (.ref a), .val (.ref (A 1)), .val (.ref ea), .val (.int (0 : Int32))] [(.ref (A 0)), (.ref (A 1))]))
  obtain ⟨_, _, ⟨T30, L30, k30, n30⟩, -, X30, ⟨Lc30, hQ30, l30, y30, z30⟩, st30⟩ := Jvm.LawKit.callS X29 hx (y := (⟨"java/util/Objects", "equals", "(Ljava/lang/Object;Ljava/lang/Object;)Z"⟩ : MethodName)) hown (mvT hZ (hw _ (List.mem_of_getElem? (i := 112) rfl))) (mvT hZ (hw _ (List.mem_of_getElem? (i := 113) rfl))) (mvT hZ (hw _ (List.mem_of_getElem? (i := 35) rfl))) (mvT hZ (hw _ (List.mem_of_getElem? (i := 114) rfl))) (by decide) (backOf (W := 0) (rm16 l Z a0 hw [] (A 1) (A 0) (own_ch 1) (own_ch 0) cs h0 hS1 hS0 S_CS hcs) hZ (hw _ (List.mem_of_getElem? (i := 114) rfl)) (hw _ (List.mem_of_getElem? (i := 35) rfl)) (by decide) (by decide)) (g := (mkF m 36 #[.val (.ref a), .val (.ref (A 1)), .val (.ref ea), .val (.int (0 : Int32))] [(.ref (A 0)), (.ref (A 1))])) rfl (by rw [hml]; rfl) (argsL := [(.ref (A 1)), (.ref (A 0))]) (rest := []) (lenOf pd_3 rfl) rfl (by show 2 * 0 + _ ≤ _; exact Nat.le_of_eq rfl) (hb hby d15_36) (fun _ _ => ⟨rfl, e29, (by decide : 0 + 0 ≤ _), (by decide : 0 + 0 ≤ _)⟩)
  dsimp only [Pt.U, Pt.locs, Pt.cells, Pt.slots] at X30 l30 y30 z30 st30 hQ30
  rw [l30, y30, z30] at X30
  clear l30 y30 z30
  obtain ⟨hv30, rfl, e30⟩ := hQ30
  rw [own_oeq0 (StrIs.ne hS1 hS0 (by decide)) (by decide)] at hv30
  subst hv30
  refine Gl.go ?_ st30
  show Gl _ _ _ _ (T30.setTop (mkF m 39 _ [(.int (0 : Int32))]))
  refine Gl.go ?_ (fun t k => XS.ifYes X30.here hx rfl (pc0 := 39) (pc' := 44) rfl (hb hby d15_39) rfl ((if0 _ _).trans (teq (by decide : (0 : Int32) = (0 : Int32))).1) (by decide) (by decide) k)
  show Gl _ _ _ _ (T30.setTop (mkF m 44 #[.val (.ref a), .val (.ref (A 1)), .val (.ref ea), .val (.int (0 : Int32))] []))
  refine Gl.go ?_ (fun t k => XS.iinc X30.here hx rfl (hb hby d15_44) rfl (l' := #[.val (.ref a), .val (.ref (A 1)), .val (.ref ea), .val (.int (1 : Int32))]) rfl k)
  show Gl _ _ _ _ (T30.setTop (mkF m 47 _ []))
  refine Gl.go ?_ (fun t k => XS.goto X30.here hx rfl (pc0 := 47) (pc' := 26) rfl (hb hby d15_47) (by decide) (by decide) k)
  show Gl _ _ _ _ (T30.setTop (mkF m 26 _ []))
  refine Gl.go ?_ (fun t k => XS.iloadN X30.here hx rfl (hb hby d15_26) rfl k)
  show Gl _ _ _ _ (T30.setTop (mkF m 27 _ [(.int (1 : Int32))]))
  refine Gl.go ?_ (fun t k => XS.aloadN X30.here hx rfl (hb hby d15_27) rfl rfl k)
  show Gl _ _ _ _ (T30.setTop (mkF m 28 #[.val (.ref a), .val (.ref (A 1)), .val (.ref ea), .val (.int (1 : Int32))] [(.ref ea), (.int (1 : Int32))]))
  refine Gl.go ?_ (RA.len hRA X30 hx hZ e30 (g := (mkF m 28 #[.val (.ref a), .val (.ref (A 1)), .val (.ref ea), .val (.int (1 : Int32))] [(.ref ea), (.int (1 : Int32))])) rfl rfl (hb hby d15_28))
  show Gl _ _ _ _ (T30.setTop (mkF m 29 _ [(.int N), (.int (1 : Int32))]))
  refine Gl.go ?_ (fun t k => XS.icmpNo X30.here hx rfl (hb hby d15_29) rfl (tlt (iv_gt' (k := 1) rfl (by omega))).2.1 k)
  show Gl _ _ _ _ (T30.setTop (mkF m 32 _ []))
  refine Gl.go ?_ (fun t k => XS.aloadN X30.here hx rfl (hb hby d15_32) rfl rfl k)
  show Gl _ _ _ _ (T30.setTop (mkF m 33 _ [(.ref (A 1))]))
  refine Gl.go ?_ (fun t k => XS.aloadN X30.here hx rfl (hb hby d15_33) rfl rfl k)
  show Gl _ _ _ _ (T30.setTop (mkF m 34 _ [(.ref ea), (.ref (A 1))]))
  refine Gl.go ?_ (fun t k => XS.iloadN X30.here hx rfl (hb hby d15_34) rfl k)
  show Gl _ _ _ _ (T30.setTop (mkF m 35 #[.val (.ref a), .val (.ref (A 1)), .val (.ref ea), .val (.int (1 : Int32))] [(.int (1 : Int32)), (.ref ea), (.ref (A 1))]))
  refine Gl.go ?_ (RA.rd hRA rfl X30 hx hZ e30 (by decide) (iv_gt' (k := 1) rfl (by omega)) (g := (mkF m 35 #[.val (.ref a), .val (.ref (A 1)), .val (.ref ea), .val (.int (1 : Int32))] [(.int (1 : Int32)), (.ref ea), (.ref (A 1))])) rfl rfl (hb hby d15_35))
  show Gl _ _ _ _ (T30.setTop (mkF m 36 #[.val (.ref a), .val (.ref (A 1)), .val (.ref ea), .val (.int (1 : Int32))] [(.ref (A 1)), (.ref (A 1))]))
  obtain ⟨_, _, ⟨T31, L31, k31, n31⟩, -, X31, ⟨Lc31, hQ31, l31, y31, z31⟩, st31⟩ := Jvm.LawKit.callS X30 hx (y := (⟨"java/util/Objects", "equals", "(Ljava/lang/Object;Ljava/lang/Object;)Z"⟩ : MethodName)) hown (mvT hZ (hw _ (List.mem_of_getElem? (i := 112) rfl))) (mvT hZ (hw _ (List.mem_of_getElem? (i := 113) rfl))) (mvT hZ (hw _ (List.mem_of_getElem? (i := 35) rfl))) (mvT hZ (hw _ (List.mem_of_getElem? (i := 114) rfl))) (by decide) (backOf (W := 0) (rm16 l Z a0 hw [] (A 1) (A 1) (own_ch 1) (own_ch 1) cs h0 hS1 hS1 S_CS hcs) hZ (hw _ (List.mem_of_getElem? (i := 114) rfl)) (hw _ (List.mem_of_getElem? (i := 35) rfl)) (by decide) (by decide)) (g := (mkF m 36 #[.val (.ref a), .val (.ref (A 1)), .val (.ref ea), .val (.int (1 : Int32))] [(.ref (A 1)), (.ref (A 1))])) rfl (by rw [hml]; rfl) (argsL := [(.ref (A 1)), (.ref (A 1))]) (rest := []) (lenOf pd_3 rfl) rfl (by show 2 * 0 + _ ≤ _; exact Nat.le_of_eq rfl) (hb hby d15_36) (fun _ _ => ⟨rfl, e30, (by decide : 0 + 0 ≤ _), (by decide : 0 + 0 ≤ _)⟩)
  dsimp only [Pt.U, Pt.locs, Pt.cells, Pt.slots] at X31 l31 y31 z31 st31 hQ31
  rw [l31, y31, z31] at X31
  clear l31 y31 z31
  obtain ⟨hv31, rfl, e31⟩ := hQ31
  rw [own_oeq1 _ _] at hv31
  subst hv31
  refine Gl.go ?_ st31
  show Gl _ _ _ _ (T31.setTop (mkF m 39 _ [(.int (1 : Int32))]))
  refine Gl.go ?_ (fun t k => XS.ifNo X31.here hx rfl (hb hby d15_39) rfl ((if0 _ _).trans (feq (by decide : ¬ ((1 : Int32) = (0 : Int32)))).1) k)
  show Gl _ _ _ _ (T31.setTop (mkF m 42 _ []))
  refine Gl.go ?_ (fun t k => XS.iloadN X31.here hx rfl (hb hby d15_42) rfl k)
  show Gl _ _ _ _ (T31.setTop (mkF m 43 _ [(.int (1 : Int32))]))
  obtain ⟨fs, hr, hrun, hended, hW, hsame⟩ := X31.leave (v := some (.int (1 : Int32))) (fun h => by rw [Bd.returns] at h; cases h) (BodyLoose.notSynchronized Bd)
  exact Gl.mk ⟨_, _, retI X31 hx Bd.returns (hb hby d15_43) hr, hrun, hended, _, _, rfl, ⟨congrArg (fun z => some (Value.int z)) (rfl).symm, rfl, e31⟩, ⟨_, rfl⟩, hW, hsame.mono (by decide) (by decide)⟩
def f_xN_2  : Int32 := (2 : Int32)
theorem ef_rm_xN_2 (m : MethodId) (x0 : Addr) (x1 : Addr) : entryFrame m #[(.ref x0), (.ref x1)] 4 = mkF m 0 #[.val (.ref x0), .val (.ref x1), .unset, .unset] [] := by first | (simp [entryFrame, mkF, argsToLocals, Value.category]; done) | rfl
set_option maxRecDepth 65536 in
set_option maxHeartbeats 40000000 in
theorem rm_xN_2 (l : Launch) (Z : State) (a0 : Array Value) (hw : ∀ d ∈ tables_1, d.before a0 Z = true) (ws : List Jvm.Cond) (a : Addr) (A : Nat → Addr) (cs : Int32) (ea : Addr) (N : Int32) (h0 : Heap) (F_el : Fld Z h0 a "java/util/ImmutableCollections$ListN" "elements" "[Ljava/lang/Object;" (.ref ea)) (F_an : Fld Z h0 a "java/util/ImmutableCollections$ListN" "allowNulls" "Z" (.int 0)) (hRA : RA Z h0 ea (.object "java/lang/Object") N A) (hN : (2 : Int) < N.toInt) (hS0 : StrIs Z h0 (A 0) (own_ch 0)) (hS1 : StrIs Z h0 (A 1) (own_ch 1)) (hS2 : StrIs Z h0 (A 2) (own_ch 2)) (S_CS : Sta Z h0 "java/lang/String" "COMPACT_STRINGS" "Z" (.int cs)) (hcs : ¬ cs = 0) :
    MetFree l (⟨"java/util/ImmutableCollections$ListN", "indexOf", "(Ljava/lang/Object;)I"⟩ : MethodName) (head1 (Jvm.Cond.code (⟨"java/util/ImmutableCollections$ListN", "indexOf", "(Ljava/lang/Object;)I"⟩ : MethodName) jdk_45_method_9_code 4 (some .int) :: ws) ({ frames := 4, cells := 0, slots := 0, locals := 80 } : Room)) (fun aQ U => aQ = #[(.ref a), (.ref (A 2))] ∧ Z.Warmed39 U.vm ∧ U.heap = h0) (fun _ _ _ _ _ => True) (fun _ U o U' => ∃ vQ LQ, o = .returned vQ ∧ PQ (some (.int (f_xN_2 ))) h0 vQ U'.heap LQ ∧ FrameEnd U o U' LQ ({ frames := 4, cells := 0, slots := 0, locals := 80 } : Room).cells ({ frames := 4, cells := 0, slots := 0, locals := 80 } : Room).slots) := by
  refine MetFree.of_bodySF (plainFor_of_name pn_15) hisR ?_
  intro p e s m args below meth c s₁ Bd hml0 hP hK
  obtain ⟨rfl, hZ, hh⟩ := hP
  have hx := Bd.exec
  have hby := Bd.bytes
  have hml : c.maxLocals = 4 := hml0
  have hown : s.vm.findClass "java/util/ImmutableCollections$ListN" = some m.cls := findClass_of_methodNamed Bd.named
  have hnm := (name_of_methodNamed Bd.named Bd.method).1
  have X0 : Stand p l e ({ frames := 4, cells := 0, slots := 0, locals := 80 } : Room) s m #[(.ref a), (.ref (A 2))] below meth c s₁ [] 0 0 := Stand.of_body Bd
  have e0 : s₁.heap = h0 := by rw [← hh, Bd.state]; rfl
  refine Gl.out ?_
  refine Gl.go ?_ (fun t k => castTop (ef_rm_xN_2 m a (A 2)) k)
  show Gl _ _ _ _ (s₁.setTop (mkF m 0 _ []))
  refine Gl.go ?_ (fun t k => XS.aloadN X0.here hx rfl (hb hby d15_0) rfl rfl k)
  show Gl _ _ _ _ (s₁.setTop (mkF m 1 #[.val (.ref a), .val (.ref (A 2)), .unset, .unset] [(.ref a)]))
  obtain ⟨T32, X32, e32, st32⟩ := getF X0 hx hZ hown (host := "") (Or.inl (hw _ (List.mem_of_getElem? (i := 68) rfl))) Via.refl e0 F_an (g := (mkF m 1 #[.val (.ref a), .val (.ref (A 2)), .unset, .unset] [(.ref a)])) rfl rfl (hb hby d15_1)
  refine Gl.go ?_ st32
  show Gl _ _ _ _ (T32.setTop (mkF m 4 _ [(.int (0 : Int32))]))
  refine Gl.go ?_ (fun t k => XS.ifNo X32.here hx rfl (hb hby d15_4) rfl ((if0 _ _).trans (teq (by decide : (0 : Int32) = (0 : Int32))).2) k)
  show Gl _ _ _ _ (T32.setTop (mkF m 7 _ []))
  refine Gl.go ?_ (fun t k => XS.aloadN X32.here hx rfl (hb hby d15_7) rfl rfl k)
  show Gl _ _ _ _ (T32.setTop (mkF m 8 #[.val (.ref a), .val (.ref (A 2)), .unset, .unset] [(.ref (A 2))]))
  refine Gl.go ?_ (fun t k => XS.ifnonnullYes X32.here hx rfl (pc0 := 8) (pc' := 19) rfl (hb hby d15_8) rfl (by decide) (by decide) k)
  show Gl _ _ _ _ (T32.setTop (mkF m 19 _ []))
  refine Gl.go ?_ (fun t k => XS.aloadN X32.here hx rfl (hb hby d15_19) rfl rfl k)
  show Gl _ _ _ _ (T32.setTop (mkF m 20 #[.val (.ref a), .val (.ref (A 2)), .unset, .unset] [(.ref a)]))
  obtain ⟨T33, X33, e33, st33⟩ := getF X32 hx hZ hown (host := "") (Or.inl (hw _ (List.mem_of_getElem? (i := 66) rfl))) Via.refl e32 F_el (g := (mkF m 20 #[.val (.ref a), .val (.ref (A 2)), .unset, .unset] [(.ref a)])) rfl rfl (hb hby d15_20)
  refine Gl.go ?_ st33
  show Gl _ _ _ _ (T33.setTop (mkF m 23 #[.val (.ref a), .val (.ref (A 2)), .unset, .unset] [(.ref ea)]))
  refine Gl.go ?_ (fun t k => XS.astoreN X33.here hx rfl (hb hby d15_23) rfl rfl (l' := #[.val (.ref a), .val (.ref (A 2)), .val (.ref ea), .unset]) rfl k)
  show Gl _ _ _ _ (T33.setTop (mkF m 24 _ []))
  refine Gl.go ?_ (fun t k => XS.iconst X33.here hx rfl (hb hby d15_24) k)
  show Gl _ _ _ _ (T33.setTop (mkF m 25 #[.val (.ref a), .val (.ref (A 2)), .val (.ref ea), .unset] [(.int (0 : Int32))]))
  refine Gl.go ?_ (fun t k => XS.istoreN X33.here hx rfl (hb hby d15_25) rfl (l' := #[.val (.ref a), .val (.ref (A 2)), .val (.ref ea), .val (.int (0 : Int32))]) rfl k)
  show Gl _ _ _ _ (T33.setTop (mkF m 26 _ []))
  refine Gl.go ?_ (fun t k => XS.iloadN X33.here hx rfl (hb hby d15_26) rfl k)
  show Gl _ _ _ _ (T33.setTop (mkF m 27 _ [(.int (0 : Int32))]))
  refine Gl.go ?_ (fun t k => XS.aloadN X33.here hx rfl (hb hby d15_27) rfl rfl k)
  show Gl _ _ _ _ (T33.setTop (mkF m 28 #[.val (.ref a), .val (.ref (A 2)), .val (.ref ea), .val (.int (0 : Int32))] [(.ref ea), (.int (0 : Int32))]))
  refine Gl.go ?_ (RA.len hRA X33 hx hZ e33 (g := (mkF m 28 #[.val (.ref a), .val (.ref (A 2)), .val (.ref ea), .val (.int (0 : Int32))] [(.ref ea), (.int (0 : Int32))])) rfl rfl (hb hby d15_28))
  show Gl _ _ _ _ (T33.setTop (mkF m 29 _ [(.int N), (.int (0 : Int32))]))
  refine Gl.go ?_ (fun t k => XS.icmpNo X33.here hx rfl (hb hby d15_29) rfl (tlt (iv_gt' (k := 0) rfl (by omega))).2.1 k)
  show Gl _ _ _ _ (T33.setTop (mkF m 32 _ []))
  refine Gl.go ?_ (fun t k => XS.aloadN X33.here hx rfl (hb hby d15_32) rfl rfl k)
  show Gl _ _ _ _ (T33.setTop (mkF m 33 _ [(.ref (A 2))]))
  refine Gl.go ?_ (fun t k => XS.aloadN X33.here hx rfl (hb hby d15_33) rfl rfl k)
  show Gl _ _ _ _ (T33.setTop (mkF m 34 _ [(.ref ea), (.ref (A 2))]))
  refine Gl.go ?_ (fun t k => XS.iloadN X33.here hx rfl (hb hby d15_34) rfl k)
  show Gl _ _ _ _ (T33.setTop (mkF m 35 #[.val (.ref a), .val (.ref (A 2)), .val (.ref ea), .val (.int (0 : Int32))] [(.int (0 : Int32)), (.ref ea), (.ref (A 2))]))
  refine Gl.go ?_ (RA.rd hRA rfl X33 hx hZ e33 (by decide) (iv_gt' (k := 0) rfl (by omega)) (g := (mkF m 35 #[.val (.ref a), .val (.ref (A 2)), .val (.ref ea), .val (.int (0 : Int32))] [(.int (0 : Int32)), (.ref ea), (.ref (A 2))])) rfl rfl (hb hby d15_35))
  show Gl _ _ _ _ (T33.setTop (mkF m 36 #[.val (.ref a), .val (.ref (A 2)), .val (.ref ea), .val (.int (0 : Int32))] [(.ref (A 0)), (.ref (A 2))]))
  obtain ⟨_, _, ⟨T34, L34, k34, n34⟩, -, X34, ⟨Lc34, hQ34, l34, y34, z34⟩, st34⟩ := Jvm.LawKit.callS X33 hx (y := (⟨"java/util/Objects", "equals", "(Ljava/lang/Object;Ljava/lang/Object;)Z"⟩ : MethodName)) hown (mvT hZ (hw _ (List.mem_of_getElem? (i := 112) rfl))) (mvT hZ (hw _ (List.mem_of_getElem? (i := 113) rfl))) (mvT hZ (hw _ (List.mem_of_getElem? (i := 35) rfl))) (mvT hZ (hw _ (List.mem_of_getElem? (i := 114) rfl))) (by decide) (backOf (W := 0) (rm16 l Z a0 hw [] (A 2) (A 0) (own_ch 2) (own_ch 0) cs h0 hS2 hS0 S_CS hcs) hZ (hw _ (List.mem_of_getElem? (i := 114) rfl)) (hw _ (List.mem_of_getElem? (i := 35) rfl)) (by decide) (by decide)) (g := (mkF m 36 #[.val (.ref a), .val (.ref (A 2)), .val (.ref ea), .val (.int (0 : Int32))] [(.ref (A 0)), (.ref (A 2))])) rfl (by rw [hml]; rfl) (argsL := [(.ref (A 2)), (.ref (A 0))]) (rest := []) (lenOf pd_3 rfl) rfl (by show 2 * 0 + _ ≤ _; exact Nat.le_of_eq rfl) (hb hby d15_36) (fun _ _ => ⟨rfl, e33, (by decide : 0 + 0 ≤ _), (by decide : 0 + 0 ≤ _)⟩)
  dsimp only [Pt.U, Pt.locs, Pt.cells, Pt.slots] at X34 l34 y34 z34 st34 hQ34
  rw [l34, y34, z34] at X34
  clear l34 y34 z34
  obtain ⟨hv34, rfl, e34⟩ := hQ34
  rw [own_oeq0 (StrIs.ne hS2 hS0 (by decide)) (by decide)] at hv34
  subst hv34
  refine Gl.go ?_ st34
  show Gl _ _ _ _ (T34.setTop (mkF m 39 _ [(.int (0 : Int32))]))
  refine Gl.go ?_ (fun t k => XS.ifYes X34.here hx rfl (pc0 := 39) (pc' := 44) rfl (hb hby d15_39) rfl ((if0 _ _).trans (teq (by decide : (0 : Int32) = (0 : Int32))).1) (by decide) (by decide) k)
  show Gl _ _ _ _ (T34.setTop (mkF m 44 #[.val (.ref a), .val (.ref (A 2)), .val (.ref ea), .val (.int (0 : Int32))] []))
  refine Gl.go ?_ (fun t k => XS.iinc X34.here hx rfl (hb hby d15_44) rfl (l' := #[.val (.ref a), .val (.ref (A 2)), .val (.ref ea), .val (.int (1 : Int32))]) rfl k)
  show Gl _ _ _ _ (T34.setTop (mkF m 47 _ []))
  refine Gl.go ?_ (fun t k => XS.goto X34.here hx rfl (pc0 := 47) (pc' := 26) rfl (hb hby d15_47) (by decide) (by decide) k)
  show Gl _ _ _ _ (T34.setTop (mkF m 26 _ []))
  refine Gl.go ?_ (fun t k => XS.iloadN X34.here hx rfl (hb hby d15_26) rfl k)
  show Gl _ _ _ _ (T34.setTop (mkF m 27 _ [(.int (1 : Int32))]))
  refine Gl.go ?_ (fun t k => XS.aloadN X34.here hx rfl (hb hby d15_27) rfl rfl k)
  show Gl _ _ _ _ (T34.setTop (mkF m 28 #[.val (.ref a), .val (.ref (A 2)), .val (.ref ea), .val (.int (1 : Int32))] [(.ref ea), (.int (1 : Int32))]))
  refine Gl.go ?_ (RA.len hRA X34 hx hZ e34 (g := (mkF m 28 #[.val (.ref a), .val (.ref (A 2)), .val (.ref ea), .val (.int (1 : Int32))] [(.ref ea), (.int (1 : Int32))])) rfl rfl (hb hby d15_28))
  show Gl _ _ _ _ (T34.setTop (mkF m 29 _ [(.int N), (.int (1 : Int32))]))
  refine Gl.go ?_ (fun t k => XS.icmpNo X34.here hx rfl (hb hby d15_29) rfl (tlt (iv_gt' (k := 1) rfl (by omega))).2.1 k)
  show Gl _ _ _ _ (T34.setTop (mkF m 32 _ []))
  refine Gl.go ?_ (fun t k => XS.aloadN X34.here hx rfl (hb hby d15_32) rfl rfl k)
  show Gl _ _ _ _ (T34.setTop (mkF m 33 _ [(.ref (A 2))]))
  refine Gl.go ?_ (fun t k => XS.aloadN X34.here hx rfl (hb hby d15_33) rfl rfl k)
  show Gl _ _ _ _ (T34.setTop (mkF m 34 _ [(.ref ea), (.ref (A 2))]))
  refine Gl.go ?_ (fun t k => XS.iloadN X34.here hx rfl (hb hby d15_34) rfl k)
  show Gl _ _ _ _ (T34.setTop (mkF m 35 #[.val (.ref a), .val (.ref (A 2)), .val (.ref ea), .val (.int (1 : Int32))] [(.int (1 : Int32)), (.ref ea), (.ref (A 2))]))
  refine Gl.go ?_ (RA.rd hRA rfl X34 hx hZ e34 (by decide) (iv_gt' (k := 1) rfl (by omega)) (g := (mkF m 35 #[.val (.ref a), .val (.ref (A 2)), .val (.ref ea), .val (.int (1 : Int32))] [(.int (1 : Int32)), (.ref ea), (.ref (A 2))])) rfl rfl (hb hby d15_35))
  show Gl _ _ _ _ (T34.setTop (mkF m 36 #[.val (.ref a), .val (.ref (A 2)), .val (.ref ea), .val (.int (1 : Int32))] [(.ref (A 1)), (.ref (A 2))]))
  obtain ⟨_, _, ⟨T35, L35, k35, n35⟩, -, X35, ⟨Lc35, hQ35, l35, y35, z35⟩, st35⟩ := Jvm.LawKit.callS X34 hx (y := (⟨"java/util/Objects", "equals", "(Ljava/lang/Object;Ljava/lang/Object;)Z"⟩ : MethodName)) hown (mvT hZ (hw _ (List.mem_of_getElem? (i := 112) rfl))) (mvT hZ (hw _ (List.mem_of_getElem? (i := 113) rfl))) (mvT hZ (hw _ (List.mem_of_getElem? (i := 35) rfl))) (mvT hZ (hw _ (List.mem_of_getElem? (i := 114) rfl))) (by decide) (backOf (W := 0) (rm16 l Z a0 hw [] (A 2) (A 1) (own_ch 2) (own_ch 1) cs h0 hS2 hS1 S_CS hcs) hZ (hw _ (List.mem_of_getElem? (i := 114) rfl)) (hw _ (List.mem_of_getElem? (i := 35) rfl)) (by decide) (by decide)) (g := (mkF m 36 #[.val (.ref a), .val (.ref (A 2)), .val (.ref ea), .val (.int (1 : Int32))] [(.ref (A 1)), (.ref (A 2))])) rfl (by rw [hml]; rfl) (argsL := [(.ref (A 2)), (.ref (A 1))]) (rest := []) (lenOf pd_3 rfl) rfl (by show 2 * 0 + _ ≤ _; exact Nat.le_of_eq rfl) (hb hby d15_36) (fun _ _ => ⟨rfl, e34, (by decide : 0 + 0 ≤ _), (by decide : 0 + 0 ≤ _)⟩)
  dsimp only [Pt.U, Pt.locs, Pt.cells, Pt.slots] at X35 l35 y35 z35 st35 hQ35
  rw [l35, y35, z35] at X35
  clear l35 y35 z35
  obtain ⟨hv35, rfl, e35⟩ := hQ35
  rw [own_oeq0 (StrIs.ne hS2 hS1 (by decide)) (by decide)] at hv35
  subst hv35
  refine Gl.go ?_ st35
  show Gl _ _ _ _ (T35.setTop (mkF m 39 _ [(.int (0 : Int32))]))
  refine Gl.go ?_ (fun t k => XS.ifYes X35.here hx rfl (pc0 := 39) (pc' := 44) rfl (hb hby d15_39) rfl ((if0 _ _).trans (teq (by decide : (0 : Int32) = (0 : Int32))).1) (by decide) (by decide) k)
  show Gl _ _ _ _ (T35.setTop (mkF m 44 #[.val (.ref a), .val (.ref (A 2)), .val (.ref ea), .val (.int (1 : Int32))] []))
  refine Gl.go ?_ (fun t k => XS.iinc X35.here hx rfl (hb hby d15_44) rfl (l' := #[.val (.ref a), .val (.ref (A 2)), .val (.ref ea), .val (.int (2 : Int32))]) rfl k)
  show Gl _ _ _ _ (T35.setTop (mkF m 47 _ []))
  refine Gl.go ?_ (fun t k => XS.goto X35.here hx rfl (pc0 := 47) (pc' := 26) rfl (hb hby d15_47) (by decide) (by decide) k)
  show Gl _ _ _ _ (T35.setTop (mkF m 26 _ []))
  refine Gl.go ?_ (fun t k => XS.iloadN X35.here hx rfl (hb hby d15_26) rfl k)
  show Gl _ _ _ _ (T35.setTop (mkF m 27 _ [(.int (2 : Int32))]))
  refine Gl.go ?_ (fun t k => XS.aloadN X35.here hx rfl (hb hby d15_27) rfl rfl k)
  show Gl _ _ _ _ (T35.setTop (mkF m 28 #[.val (.ref a), .val (.ref (A 2)), .val (.ref ea), .val (.int (2 : Int32))] [(.ref ea), (.int (2 : Int32))]))
  refine Gl.go ?_ (RA.len hRA X35 hx hZ e35 (g := (mkF m 28 #[.val (.ref a), .val (.ref (A 2)), .val (.ref ea), .val (.int (2 : Int32))] [(.ref ea), (.int (2 : Int32))])) rfl rfl (hb hby d15_28))
  show Gl _ _ _ _ (T35.setTop (mkF m 29 _ [(.int N), (.int (2 : Int32))]))
  refine Gl.go ?_ (fun t k => XS.icmpNo X35.here hx rfl (hb hby d15_29) rfl (tlt (iv_gt' (k := 2) rfl (by omega))).2.1 k)
  show Gl _ _ _ _ (T35.setTop (mkF m 32 _ []))
  refine Gl.go ?_ (fun t k => XS.aloadN X35.here hx rfl (hb hby d15_32) rfl rfl k)
  show Gl _ _ _ _ (T35.setTop (mkF m 33 _ [(.ref (A 2))]))
  refine Gl.go ?_ (fun t k => XS.aloadN X35.here hx rfl (hb hby d15_33) rfl rfl k)
  show Gl _ _ _ _ (T35.setTop (mkF m 34 _ [(.ref ea), (.ref (A 2))]))
  refine Gl.go ?_ (fun t k => XS.iloadN X35.here hx rfl (hb hby d15_34) rfl k)
  show Gl _ _ _ _ (T35.setTop (mkF m 35 #[.val (.ref a), .val (.ref (A 2)), .val (.ref ea), .val (.int (2 : Int32))] [(.int (2 : Int32)), (.ref ea), (.ref (A 2))]))
  refine Gl.go ?_ (RA.rd hRA rfl X35 hx hZ e35 (by decide) (iv_gt' (k := 2) rfl (by omega)) (g := (mkF m 35 #[.val (.ref a), .val (.ref (A 2)), .val (.ref ea), .val (.int (2 : Int32))] [(.int (2 : Int32)), (.ref ea), (.ref (A 2))])) rfl rfl (hb hby d15_35))
  show Gl _ _ _ _ (T35.setTop (mkF m 36 #[.val (.ref a), .val (.ref (A 2)), .val (.ref ea), .val (.int (2 : Int32))] [(.ref (A 2)), (.ref (A 2))]))
  obtain ⟨_, _, ⟨T36, L36, k36, n36⟩, -, X36, ⟨Lc36, hQ36, l36, y36, z36⟩, st36⟩ := Jvm.LawKit.callS X35 hx (y := (⟨"java/util/Objects", "equals", "(Ljava/lang/Object;Ljava/lang/Object;)Z"⟩ : MethodName)) hown (mvT hZ (hw _ (List.mem_of_getElem? (i := 112) rfl))) (mvT hZ (hw _ (List.mem_of_getElem? (i := 113) rfl))) (mvT hZ (hw _ (List.mem_of_getElem? (i := 35) rfl))) (mvT hZ (hw _ (List.mem_of_getElem? (i := 114) rfl))) (by decide) (backOf (W := 0) (rm16 l Z a0 hw [] (A 2) (A 2) (own_ch 2) (own_ch 2) cs h0 hS2 hS2 S_CS hcs) hZ (hw _ (List.mem_of_getElem? (i := 114) rfl)) (hw _ (List.mem_of_getElem? (i := 35) rfl)) (by decide) (by decide)) (g := (mkF m 36 #[.val (.ref a), .val (.ref (A 2)), .val (.ref ea), .val (.int (2 : Int32))] [(.ref (A 2)), (.ref (A 2))])) rfl (by rw [hml]; rfl) (argsL := [(.ref (A 2)), (.ref (A 2))]) (rest := []) (lenOf pd_3 rfl) rfl (by show 2 * 0 + _ ≤ _; exact Nat.le_of_eq rfl) (hb hby d15_36) (fun _ _ => ⟨rfl, e35, (by decide : 0 + 0 ≤ _), (by decide : 0 + 0 ≤ _)⟩)
  dsimp only [Pt.U, Pt.locs, Pt.cells, Pt.slots] at X36 l36 y36 z36 st36 hQ36
  rw [l36, y36, z36] at X36
  clear l36 y36 z36
  obtain ⟨hv36, rfl, e36⟩ := hQ36
  rw [own_oeq1 _ _] at hv36
  subst hv36
  refine Gl.go ?_ st36
  show Gl _ _ _ _ (T36.setTop (mkF m 39 _ [(.int (1 : Int32))]))
  refine Gl.go ?_ (fun t k => XS.ifNo X36.here hx rfl (hb hby d15_39) rfl ((if0 _ _).trans (feq (by decide : ¬ ((1 : Int32) = (0 : Int32)))).1) k)
  show Gl _ _ _ _ (T36.setTop (mkF m 42 _ []))
  refine Gl.go ?_ (fun t k => XS.iloadN X36.here hx rfl (hb hby d15_42) rfl k)
  show Gl _ _ _ _ (T36.setTop (mkF m 43 _ [(.int (2 : Int32))]))
  obtain ⟨fs, hr, hrun, hended, hW, hsame⟩ := X36.leave (v := some (.int (2 : Int32))) (fun h => by rw [Bd.returns] at h; cases h) (BodyLoose.notSynchronized Bd)
  exact Gl.mk ⟨_, _, retI X36 hx Bd.returns (hb hby d15_43) hr, hrun, hended, _, _, rfl, ⟨congrArg (fun z => some (Value.int z)) (rfl).symm, rfl, e36⟩, ⟨_, rfl⟩, hW, hsame.mono (by decide) (by decide)⟩
def f_xN_3  : Int32 := (3 : Int32)
theorem ef_rm_xN_3 (m : MethodId) (x0 : Addr) (x1 : Addr) : entryFrame m #[(.ref x0), (.ref x1)] 4 = mkF m 0 #[.val (.ref x0), .val (.ref x1), .unset, .unset] [] := by first | (simp [entryFrame, mkF, argsToLocals, Value.category]; done) | rfl
set_option maxRecDepth 65536 in
set_option maxHeartbeats 40000000 in
theorem rm_xN_3 (l : Launch) (Z : State) (a0 : Array Value) (hw : ∀ d ∈ tables_1, d.before a0 Z = true) (ws : List Jvm.Cond) (a : Addr) (A : Nat → Addr) (cs : Int32) (ea : Addr) (N : Int32) (h0 : Heap) (F_el : Fld Z h0 a "java/util/ImmutableCollections$ListN" "elements" "[Ljava/lang/Object;" (.ref ea)) (F_an : Fld Z h0 a "java/util/ImmutableCollections$ListN" "allowNulls" "Z" (.int 0)) (hRA : RA Z h0 ea (.object "java/lang/Object") N A) (hN : (3 : Int) < N.toInt) (hS0 : StrIs Z h0 (A 0) (own_ch 0)) (hS1 : StrIs Z h0 (A 1) (own_ch 1)) (hS2 : StrIs Z h0 (A 2) (own_ch 2)) (hS3 : StrIs Z h0 (A 3) (own_ch 3)) (S_CS : Sta Z h0 "java/lang/String" "COMPACT_STRINGS" "Z" (.int cs)) (hcs : ¬ cs = 0) :
    MetFree l (⟨"java/util/ImmutableCollections$ListN", "indexOf", "(Ljava/lang/Object;)I"⟩ : MethodName) (head1 (Jvm.Cond.code (⟨"java/util/ImmutableCollections$ListN", "indexOf", "(Ljava/lang/Object;)I"⟩ : MethodName) jdk_45_method_9_code 4 (some .int) :: ws) ({ frames := 4, cells := 0, slots := 0, locals := 80 } : Room)) (fun aQ U => aQ = #[(.ref a), (.ref (A 3))] ∧ Z.Warmed39 U.vm ∧ U.heap = h0) (fun _ _ _ _ _ => True) (fun _ U o U' => ∃ vQ LQ, o = .returned vQ ∧ PQ (some (.int (f_xN_3 ))) h0 vQ U'.heap LQ ∧ FrameEnd U o U' LQ ({ frames := 4, cells := 0, slots := 0, locals := 80 } : Room).cells ({ frames := 4, cells := 0, slots := 0, locals := 80 } : Room).slots) := by
  refine MetFree.of_bodySF (plainFor_of_name pn_15) hisR ?_
  intro p e s m args below meth c s₁ Bd hml0 hP hK
  obtain ⟨rfl, hZ, hh⟩ := hP
  have hx := Bd.exec
  have hby := Bd.bytes
  have hml : c.maxLocals = 4 := hml0
  have hown : s.vm.findClass "java/util/ImmutableCollections$ListN" = some m.cls := findClass_of_methodNamed Bd.named
  have hnm := (name_of_methodNamed Bd.named Bd.method).1
  have X0 : Stand p l e ({ frames := 4, cells := 0, slots := 0, locals := 80 } : Room) s m #[(.ref a), (.ref (A 3))] below meth c s₁ [] 0 0 := Stand.of_body Bd
  have e0 : s₁.heap = h0 := by rw [← hh, Bd.state]; rfl
  refine Gl.out ?_
  refine Gl.go ?_ (fun t k => castTop (ef_rm_xN_3 m a (A 3)) k)
  show Gl _ _ _ _ (s₁.setTop (mkF m 0 _ []))
  refine Gl.go ?_ (fun t k => XS.aloadN X0.here hx rfl (hb hby d15_0) rfl rfl k)
  show Gl _ _ _ _ (s₁.setTop (mkF m 1 #[.val (.ref a), .val (.ref (A 3)), .unset, .unset] [(.ref a)]))
  obtain ⟨T37, X37, e37, st37⟩ := getF X0 hx hZ hown (host := "") (Or.inl (hw _ (List.mem_of_getElem? (i := 68) rfl))) Via.refl e0 F_an (g := (mkF m 1 #[.val (.ref a), .val (.ref (A 3)), .unset, .unset] [(.ref a)])) rfl rfl (hb hby d15_1)
  refine Gl.go ?_ st37
  show Gl _ _ _ _ (T37.setTop (mkF m 4 _ [(.int (0 : Int32))]))
  refine Gl.go ?_ (fun t k => XS.ifNo X37.here hx rfl (hb hby d15_4) rfl ((if0 _ _).trans (teq (by decide : (0 : Int32) = (0 : Int32))).2) k)
  show Gl _ _ _ _ (T37.setTop (mkF m 7 _ []))
  refine Gl.go ?_ (fun t k => XS.aloadN X37.here hx rfl (hb hby d15_7) rfl rfl k)
  show Gl _ _ _ _ (T37.setTop (mkF m 8 #[.val (.ref a), .val (.ref (A 3)), .unset, .unset] [(.ref (A 3))]))
  refine Gl.go ?_ (fun t k => XS.ifnonnullYes X37.here hx rfl (pc0 := 8) (pc' := 19) rfl (hb hby d15_8) rfl (by decide) (by decide) k)
  show Gl _ _ _ _ (T37.setTop (mkF m 19 _ []))
  refine Gl.go ?_ (fun t k => XS.aloadN X37.here hx rfl (hb hby d15_19) rfl rfl k)
  show Gl _ _ _ _ (T37.setTop (mkF m 20 #[.val (.ref a), .val (.ref (A 3)), .unset, .unset] [(.ref a)]))
  obtain ⟨T38, X38, e38, st38⟩ := getF X37 hx hZ hown (host := "") (Or.inl (hw _ (List.mem_of_getElem? (i := 66) rfl))) Via.refl e37 F_el (g := (mkF m 20 #[.val (.ref a), .val (.ref (A 3)), .unset, .unset] [(.ref a)])) rfl rfl (hb hby d15_20)
  refine Gl.go ?_ st38
  show Gl _ _ _ _ (T38.setTop (mkF m 23 #[.val (.ref a), .val (.ref (A 3)), .unset, .unset] [(.ref ea)]))
  refine Gl.go ?_ (fun t k => XS.astoreN X38.here hx rfl (hb hby d15_23) rfl rfl (l' := #[.val (.ref a), .val (.ref (A 3)), .val (.ref ea), .unset]) rfl k)
  show Gl _ _ _ _ (T38.setTop (mkF m 24 _ []))
  refine Gl.go ?_ (fun t k => XS.iconst X38.here hx rfl (hb hby d15_24) k)
  show Gl _ _ _ _ (T38.setTop (mkF m 25 #[.val (.ref a), .val (.ref (A 3)), .val (.ref ea), .unset] [(.int (0 : Int32))]))
  refine Gl.go ?_ (fun t k => XS.istoreN X38.here hx rfl (hb hby d15_25) rfl (l' := #[.val (.ref a), .val (.ref (A 3)), .val (.ref ea), .val (.int (0 : Int32))]) rfl k)
  show Gl _ _ _ _ (T38.setTop (mkF m 26 _ []))
  refine Gl.go ?_ (fun t k => XS.iloadN X38.here hx rfl (hb hby d15_26) rfl k)
  show Gl _ _ _ _ (T38.setTop (mkF m 27 _ [(.int (0 : Int32))]))
  refine Gl.go ?_ (fun t k => XS.aloadN X38.here hx rfl (hb hby d15_27) rfl rfl k)
  show Gl _ _ _ _ (T38.setTop (mkF m 28 #[.val (.ref a), .val (.ref (A 3)), .val (.ref ea), .val (.int (0 : Int32))] [(.ref ea), (.int (0 : Int32))]))
  refine Gl.go ?_ (RA.len hRA X38 hx hZ e38 (g := (mkF m 28 #[.val (.ref a), .val (.ref (A 3)), .val (.ref ea), .val (.int (0 : Int32))] [(.ref ea), (.int (0 : Int32))])) rfl rfl (hb hby d15_28))
  show Gl _ _ _ _ (T38.setTop (mkF m 29 _ [(.int N), (.int (0 : Int32))]))
  refine Gl.go ?_ (fun t k => XS.icmpNo X38.here hx rfl (hb hby d15_29) rfl (tlt (iv_gt' (k := 0) rfl (by omega))).2.1 k)
  show Gl _ _ _ _ (T38.setTop (mkF m 32 _ []))
  refine Gl.go ?_ (fun t k => XS.aloadN X38.here hx rfl (hb hby d15_32) rfl rfl k)
  show Gl _ _ _ _ (T38.setTop (mkF m 33 _ [(.ref (A 3))]))
  refine Gl.go ?_ (fun t k => XS.aloadN X38.here hx rfl (hb hby d15_33) rfl rfl k)
  show Gl _ _ _ _ (T38.setTop (mkF m 34 _ [(.ref ea), (.ref (A 3))]))
  refine Gl.go ?_ (fun t k => XS.iloadN X38.here hx rfl (hb hby d15_34) rfl k)
  show Gl _ _ _ _ (T38.setTop (mkF m 35 #[.val (.ref a), .val (.ref (A 3)), .val (.ref ea), .val (.int (0 : Int32))] [(.int (0 : Int32)), (.ref ea), (.ref (A 3))]))
  refine Gl.go ?_ (RA.rd hRA rfl X38 hx hZ e38 (by decide) (iv_gt' (k := 0) rfl (by omega)) (g := (mkF m 35 #[.val (.ref a), .val (.ref (A 3)), .val (.ref ea), .val (.int (0 : Int32))] [(.int (0 : Int32)), (.ref ea), (.ref (A 3))])) rfl rfl (hb hby d15_35))
  show Gl _ _ _ _ (T38.setTop (mkF m 36 #[.val (.ref a), .val (.ref (A 3)), .val (.ref ea), .val (.int (0 : Int32))] [(.ref (A 0)), (.ref (A 3))]))
  obtain ⟨_, _, ⟨T39, L39, k39, n39⟩, -, X39, ⟨Lc39, hQ39, l39, y39, z39⟩, st39⟩ := Jvm.LawKit.callS X38 hx (y := (⟨"java/util/Objects", "equals", "(Ljava/lang/Object;Ljava/lang/Object;)Z"⟩ : MethodName)) hown (mvT hZ (hw _ (List.mem_of_getElem? (i := 112) rfl))) (mvT hZ (hw _ (List.mem_of_getElem? (i := 113) rfl))) (mvT hZ (hw _ (List.mem_of_getElem? (i := 35) rfl))) (mvT hZ (hw _ (List.mem_of_getElem? (i := 114) rfl))) (by decide) (backOf (W := 0) (rm16 l Z a0 hw [] (A 3) (A 0) (own_ch 3) (own_ch 0) cs h0 hS3 hS0 S_CS hcs) hZ (hw _ (List.mem_of_getElem? (i := 114) rfl)) (hw _ (List.mem_of_getElem? (i := 35) rfl)) (by decide) (by decide)) (g := (mkF m 36 #[.val (.ref a), .val (.ref (A 3)), .val (.ref ea), .val (.int (0 : Int32))] [(.ref (A 0)), (.ref (A 3))])) rfl (by rw [hml]; rfl) (argsL := [(.ref (A 3)), (.ref (A 0))]) (rest := []) (lenOf pd_3 rfl) rfl (by show 2 * 0 + _ ≤ _; exact Nat.le_of_eq rfl) (hb hby d15_36) (fun _ _ => ⟨rfl, e38, (by decide : 0 + 0 ≤ _), (by decide : 0 + 0 ≤ _)⟩)
  dsimp only [Pt.U, Pt.locs, Pt.cells, Pt.slots] at X39 l39 y39 z39 st39 hQ39
  rw [l39, y39, z39] at X39
  clear l39 y39 z39
  obtain ⟨hv39, rfl, e39⟩ := hQ39
  rw [own_oeq0 (StrIs.ne hS3 hS0 (by decide)) (by decide)] at hv39
  subst hv39
  refine Gl.go ?_ st39
  show Gl _ _ _ _ (T39.setTop (mkF m 39 _ [(.int (0 : Int32))]))
  refine Gl.go ?_ (fun t k => XS.ifYes X39.here hx rfl (pc0 := 39) (pc' := 44) rfl (hb hby d15_39) rfl ((if0 _ _).trans (teq (by decide : (0 : Int32) = (0 : Int32))).1) (by decide) (by decide) k)
  show Gl _ _ _ _ (T39.setTop (mkF m 44 #[.val (.ref a), .val (.ref (A 3)), .val (.ref ea), .val (.int (0 : Int32))] []))
  refine Gl.go ?_ (fun t k => XS.iinc X39.here hx rfl (hb hby d15_44) rfl (l' := #[.val (.ref a), .val (.ref (A 3)), .val (.ref ea), .val (.int (1 : Int32))]) rfl k)
  show Gl _ _ _ _ (T39.setTop (mkF m 47 _ []))
  refine Gl.go ?_ (fun t k => XS.goto X39.here hx rfl (pc0 := 47) (pc' := 26) rfl (hb hby d15_47) (by decide) (by decide) k)
  show Gl _ _ _ _ (T39.setTop (mkF m 26 _ []))
  refine Gl.go ?_ (fun t k => XS.iloadN X39.here hx rfl (hb hby d15_26) rfl k)
  show Gl _ _ _ _ (T39.setTop (mkF m 27 _ [(.int (1 : Int32))]))
  refine Gl.go ?_ (fun t k => XS.aloadN X39.here hx rfl (hb hby d15_27) rfl rfl k)
  show Gl _ _ _ _ (T39.setTop (mkF m 28 #[.val (.ref a), .val (.ref (A 3)), .val (.ref ea), .val (.int (1 : Int32))] [(.ref ea), (.int (1 : Int32))]))
  refine Gl.go ?_ (RA.len hRA X39 hx hZ e39 (g := (mkF m 28 #[.val (.ref a), .val (.ref (A 3)), .val (.ref ea), .val (.int (1 : Int32))] [(.ref ea), (.int (1 : Int32))])) rfl rfl (hb hby d15_28))
  show Gl _ _ _ _ (T39.setTop (mkF m 29 _ [(.int N), (.int (1 : Int32))]))
  refine Gl.go ?_ (fun t k => XS.icmpNo X39.here hx rfl (hb hby d15_29) rfl (tlt (iv_gt' (k := 1) rfl (by omega))).2.1 k)
  show Gl _ _ _ _ (T39.setTop (mkF m 32 _ []))
  refine Gl.go ?_ (fun t k => XS.aloadN X39.here hx rfl (hb hby d15_32) rfl rfl k)
  show Gl _ _ _ _ (T39.setTop (mkF m 33 _ [(.ref (A 3))]))
  refine Gl.go ?_ (fun t k => XS.aloadN X39.here hx rfl (hb hby d15_33) rfl rfl k)
  show Gl _ _ _ _ (T39.setTop (mkF m 34 _ [(.ref ea), (.ref (A 3))]))
  refine Gl.go ?_ (fun t k => XS.iloadN X39.here hx rfl (hb hby d15_34) rfl k)
  show Gl _ _ _ _ (T39.setTop (mkF m 35 #[.val (.ref a), .val (.ref (A 3)), .val (.ref ea), .val (.int (1 : Int32))] [(.int (1 : Int32)), (.ref ea), (.ref (A 3))]))
  refine Gl.go ?_ (RA.rd hRA rfl X39 hx hZ e39 (by decide) (iv_gt' (k := 1) rfl (by omega)) (g := (mkF m 35 #[.val (.ref a), .val (.ref (A 3)), .val (.ref ea), .val (.int (1 : Int32))] [(.int (1 : Int32)), (.ref ea), (.ref (A 3))])) rfl rfl (hb hby d15_35))
  show Gl _ _ _ _ (T39.setTop (mkF m 36 #[.val (.ref a), .val (.ref (A 3)), .val (.ref ea), .val (.int (1 : Int32))] [(.ref (A 1)), (.ref (A 3))]))
  obtain ⟨_, _, ⟨T40, L40, k40, n40⟩, -, X40, ⟨Lc40, hQ40, l40, y40, z40⟩, st40⟩ := Jvm.LawKit.callS X39 hx (y := (⟨"java/util/Objects", "equals", "(Ljava/lang/Object;Ljava/lang/Object;)Z"⟩ : MethodName)) hown (mvT hZ (hw _ (List.mem_of_getElem? (i := 112) rfl))) (mvT hZ (hw _ (List.mem_of_getElem? (i := 113) rfl))) (mvT hZ (hw _ (List.mem_of_getElem? (i := 35) rfl))) (mvT hZ (hw _ (List.mem_of_getElem? (i := 114) rfl))) (by decide) (backOf (W := 0) (rm16 l Z a0 hw [] (A 3) (A 1) (own_ch 3) (own_ch 1) cs h0 hS3 hS1 S_CS hcs) hZ (hw _ (List.mem_of_getElem? (i := 114) rfl)) (hw _ (List.mem_of_getElem? (i := 35) rfl)) (by decide) (by decide)) (g := (mkF m 36 #[.val (.ref a), .val (.ref (A 3)), .val (.ref ea), .val (.int (1 : Int32))] [(.ref (A 1)), (.ref (A 3))])) rfl (by rw [hml]; rfl) (argsL := [(.ref (A 3)), (.ref (A 1))]) (rest := []) (lenOf pd_3 rfl) rfl (by show 2 * 0 + _ ≤ _; exact Nat.le_of_eq rfl) (hb hby d15_36) (fun _ _ => ⟨rfl, e39, (by decide : 0 + 0 ≤ _), (by decide : 0 + 0 ≤ _)⟩)
  dsimp only [Pt.U, Pt.locs, Pt.cells, Pt.slots] at X40 l40 y40 z40 st40 hQ40
  rw [l40, y40, z40] at X40
  clear l40 y40 z40
  obtain ⟨hv40, rfl, e40⟩ := hQ40
  rw [own_oeq0 (StrIs.ne hS3 hS1 (by decide)) (by decide)] at hv40
  subst hv40
  refine Gl.go ?_ st40
  show Gl _ _ _ _ (T40.setTop (mkF m 39 _ [(.int (0 : Int32))]))
  refine Gl.go ?_ (fun t k => XS.ifYes X40.here hx rfl (pc0 := 39) (pc' := 44) rfl (hb hby d15_39) rfl ((if0 _ _).trans (teq (by decide : (0 : Int32) = (0 : Int32))).1) (by decide) (by decide) k)
  show Gl _ _ _ _ (T40.setTop (mkF m 44 #[.val (.ref a), .val (.ref (A 3)), .val (.ref ea), .val (.int (1 : Int32))] []))
  refine Gl.go ?_ (fun t k => XS.iinc X40.here hx rfl (hb hby d15_44) rfl (l' := #[.val (.ref a), .val (.ref (A 3)), .val (.ref ea), .val (.int (2 : Int32))]) rfl k)
  show Gl _ _ _ _ (T40.setTop (mkF m 47 _ []))
  refine Gl.go ?_ (fun t k => XS.goto X40.here hx rfl (pc0 := 47) (pc' := 26) rfl (hb hby d15_47) (by decide) (by decide) k)
  show Gl _ _ _ _ (T40.setTop (mkF m 26 _ []))
  refine Gl.go ?_ (fun t k => XS.iloadN X40.here hx rfl (hb hby d15_26) rfl k)
  show Gl _ _ _ _ (T40.setTop (mkF m 27 _ [(.int (2 : Int32))]))
  refine Gl.go ?_ (fun t k => XS.aloadN X40.here hx rfl (hb hby d15_27) rfl rfl k)
  show Gl _ _ _ _ (T40.setTop (mkF m 28 #[.val (.ref a), .val (.ref (A 3)), .val (.ref ea), .val (.int (2 : Int32))] [(.ref ea), (.int (2 : Int32))]))
  refine Gl.go ?_ (RA.len hRA X40 hx hZ e40 (g := (mkF m 28 #[.val (.ref a), .val (.ref (A 3)), .val (.ref ea), .val (.int (2 : Int32))] [(.ref ea), (.int (2 : Int32))])) rfl rfl (hb hby d15_28))
  show Gl _ _ _ _ (T40.setTop (mkF m 29 _ [(.int N), (.int (2 : Int32))]))
  refine Gl.go ?_ (fun t k => XS.icmpNo X40.here hx rfl (hb hby d15_29) rfl (tlt (iv_gt' (k := 2) rfl (by omega))).2.1 k)
  show Gl _ _ _ _ (T40.setTop (mkF m 32 _ []))
  refine Gl.go ?_ (fun t k => XS.aloadN X40.here hx rfl (hb hby d15_32) rfl rfl k)
  show Gl _ _ _ _ (T40.setTop (mkF m 33 _ [(.ref (A 3))]))
  refine Gl.go ?_ (fun t k => XS.aloadN X40.here hx rfl (hb hby d15_33) rfl rfl k)
  show Gl _ _ _ _ (T40.setTop (mkF m 34 _ [(.ref ea), (.ref (A 3))]))
  refine Gl.go ?_ (fun t k => XS.iloadN X40.here hx rfl (hb hby d15_34) rfl k)
  show Gl _ _ _ _ (T40.setTop (mkF m 35 #[.val (.ref a), .val (.ref (A 3)), .val (.ref ea), .val (.int (2 : Int32))] [(.int (2 : Int32)), (.ref ea), (.ref (A 3))]))
  refine Gl.go ?_ (RA.rd hRA rfl X40 hx hZ e40 (by decide) (iv_gt' (k := 2) rfl (by omega)) (g := (mkF m 35 #[.val (.ref a), .val (.ref (A 3)), .val (.ref ea), .val (.int (2 : Int32))] [(.int (2 : Int32)), (.ref ea), (.ref (A 3))])) rfl rfl (hb hby d15_35))
  show Gl _ _ _ _ (T40.setTop (mkF m 36 #[.val (.ref a), .val (.ref (A 3)), .val (.ref ea), .val (.int (2 : Int32))] [(.ref (A 2)), (.ref (A 3))]))
  obtain ⟨_, _, ⟨T41, L41, k41, n41⟩, -, X41, ⟨Lc41, hQ41, l41, y41, z41⟩, st41⟩ := Jvm.LawKit.callS X40 hx (y := (⟨"java/util/Objects", "equals", "(Ljava/lang/Object;Ljava/lang/Object;)Z"⟩ : MethodName)) hown (mvT hZ (hw _ (List.mem_of_getElem? (i := 112) rfl))) (mvT hZ (hw _ (List.mem_of_getElem? (i := 113) rfl))) (mvT hZ (hw _ (List.mem_of_getElem? (i := 35) rfl))) (mvT hZ (hw _ (List.mem_of_getElem? (i := 114) rfl))) (by decide) (backOf (W := 0) (rm16 l Z a0 hw [] (A 3) (A 2) (own_ch 3) (own_ch 2) cs h0 hS3 hS2 S_CS hcs) hZ (hw _ (List.mem_of_getElem? (i := 114) rfl)) (hw _ (List.mem_of_getElem? (i := 35) rfl)) (by decide) (by decide)) (g := (mkF m 36 #[.val (.ref a), .val (.ref (A 3)), .val (.ref ea), .val (.int (2 : Int32))] [(.ref (A 2)), (.ref (A 3))])) rfl (by rw [hml]; rfl) (argsL := [(.ref (A 3)), (.ref (A 2))]) (rest := []) (lenOf pd_3 rfl) rfl (by show 2 * 0 + _ ≤ _; exact Nat.le_of_eq rfl) (hb hby d15_36) (fun _ _ => ⟨rfl, e40, (by decide : 0 + 0 ≤ _), (by decide : 0 + 0 ≤ _)⟩)
  dsimp only [Pt.U, Pt.locs, Pt.cells, Pt.slots] at X41 l41 y41 z41 st41 hQ41
  rw [l41, y41, z41] at X41
  clear l41 y41 z41
  obtain ⟨hv41, rfl, e41⟩ := hQ41
  rw [own_oeq0 (StrIs.ne hS3 hS2 (by decide)) (by decide)] at hv41
  subst hv41
  refine Gl.go ?_ st41
  show Gl _ _ _ _ (T41.setTop (mkF m 39 _ [(.int (0 : Int32))]))
  refine Gl.go ?_ (fun t k => XS.ifYes X41.here hx rfl (pc0 := 39) (pc' := 44) rfl (hb hby d15_39) rfl ((if0 _ _).trans (teq (by decide : (0 : Int32) = (0 : Int32))).1) (by decide) (by decide) k)
  show Gl _ _ _ _ (T41.setTop (mkF m 44 #[.val (.ref a), .val (.ref (A 3)), .val (.ref ea), .val (.int (2 : Int32))] []))
  refine Gl.go ?_ (fun t k => XS.iinc X41.here hx rfl (hb hby d15_44) rfl (l' := #[.val (.ref a), .val (.ref (A 3)), .val (.ref ea), .val (.int (3 : Int32))]) rfl k)
  show Gl _ _ _ _ (T41.setTop (mkF m 47 _ []))
  refine Gl.go ?_ (fun t k => XS.goto X41.here hx rfl (pc0 := 47) (pc' := 26) rfl (hb hby d15_47) (by decide) (by decide) k)
  show Gl _ _ _ _ (T41.setTop (mkF m 26 _ []))
  refine Gl.go ?_ (fun t k => XS.iloadN X41.here hx rfl (hb hby d15_26) rfl k)
  show Gl _ _ _ _ (T41.setTop (mkF m 27 _ [(.int (3 : Int32))]))
  refine Gl.go ?_ (fun t k => XS.aloadN X41.here hx rfl (hb hby d15_27) rfl rfl k)
  show Gl _ _ _ _ (T41.setTop (mkF m 28 #[.val (.ref a), .val (.ref (A 3)), .val (.ref ea), .val (.int (3 : Int32))] [(.ref ea), (.int (3 : Int32))]))
  refine Gl.go ?_ (RA.len hRA X41 hx hZ e41 (g := (mkF m 28 #[.val (.ref a), .val (.ref (A 3)), .val (.ref ea), .val (.int (3 : Int32))] [(.ref ea), (.int (3 : Int32))])) rfl rfl (hb hby d15_28))
  show Gl _ _ _ _ (T41.setTop (mkF m 29 _ [(.int N), (.int (3 : Int32))]))
  refine Gl.go ?_ (fun t k => XS.icmpNo X41.here hx rfl (hb hby d15_29) rfl (tlt (iv_gt' (k := 3) rfl (by omega))).2.1 k)
  show Gl _ _ _ _ (T41.setTop (mkF m 32 _ []))
  refine Gl.go ?_ (fun t k => XS.aloadN X41.here hx rfl (hb hby d15_32) rfl rfl k)
  show Gl _ _ _ _ (T41.setTop (mkF m 33 _ [(.ref (A 3))]))
  refine Gl.go ?_ (fun t k => XS.aloadN X41.here hx rfl (hb hby d15_33) rfl rfl k)
  show Gl _ _ _ _ (T41.setTop (mkF m 34 _ [(.ref ea), (.ref (A 3))]))
  refine Gl.go ?_ (fun t k => XS.iloadN X41.here hx rfl (hb hby d15_34) rfl k)
  show Gl _ _ _ _ (T41.setTop (mkF m 35 #[.val (.ref a), .val (.ref (A 3)), .val (.ref ea), .val (.int (3 : Int32))] [(.int (3 : Int32)), (.ref ea), (.ref (A 3))]))
  refine Gl.go ?_ (RA.rd hRA rfl X41 hx hZ e41 (by decide) (iv_gt' (k := 3) rfl (by omega)) (g := (mkF m 35 #[.val (.ref a), .val (.ref (A 3)), .val (.ref ea), .val (.int (3 : Int32))] [(.int (3 : Int32)), (.ref ea), (.ref (A 3))])) rfl rfl (hb hby d15_35))
  show Gl _ _ _ _ (T41.setTop (mkF m 36 #[.val (.ref a), .val (.ref (A 3)), .val (.ref ea), .val (.int (3 : Int32))] [(.ref (A 3)), (.ref (A 3))]))
  obtain ⟨_, _, ⟨T42, L42, k42, n42⟩, -, X42, ⟨Lc42, hQ42, l42, y42, z42⟩, st42⟩ := Jvm.LawKit.callS X41 hx (y := (⟨"java/util/Objects", "equals", "(Ljava/lang/Object;Ljava/lang/Object;)Z"⟩ : MethodName)) hown (mvT hZ (hw _ (List.mem_of_getElem? (i := 112) rfl))) (mvT hZ (hw _ (List.mem_of_getElem? (i := 113) rfl))) (mvT hZ (hw _ (List.mem_of_getElem? (i := 35) rfl))) (mvT hZ (hw _ (List.mem_of_getElem? (i := 114) rfl))) (by decide) (backOf (W := 0) (rm16 l Z a0 hw [] (A 3) (A 3) (own_ch 3) (own_ch 3) cs h0 hS3 hS3 S_CS hcs) hZ (hw _ (List.mem_of_getElem? (i := 114) rfl)) (hw _ (List.mem_of_getElem? (i := 35) rfl)) (by decide) (by decide)) (g := (mkF m 36 #[.val (.ref a), .val (.ref (A 3)), .val (.ref ea), .val (.int (3 : Int32))] [(.ref (A 3)), (.ref (A 3))])) rfl (by rw [hml]; rfl) (argsL := [(.ref (A 3)), (.ref (A 3))]) (rest := []) (lenOf pd_3 rfl) rfl (by show 2 * 0 + _ ≤ _; exact Nat.le_of_eq rfl) (hb hby d15_36) (fun _ _ => ⟨rfl, e41, (by decide : 0 + 0 ≤ _), (by decide : 0 + 0 ≤ _)⟩)
  dsimp only [Pt.U, Pt.locs, Pt.cells, Pt.slots] at X42 l42 y42 z42 st42 hQ42
  rw [l42, y42, z42] at X42
  clear l42 y42 z42
  obtain ⟨hv42, rfl, e42⟩ := hQ42
  rw [own_oeq1 _ _] at hv42
  subst hv42
  refine Gl.go ?_ st42
  show Gl _ _ _ _ (T42.setTop (mkF m 39 _ [(.int (1 : Int32))]))
  refine Gl.go ?_ (fun t k => XS.ifNo X42.here hx rfl (hb hby d15_39) rfl ((if0 _ _).trans (feq (by decide : ¬ ((1 : Int32) = (0 : Int32)))).1) k)
  show Gl _ _ _ _ (T42.setTop (mkF m 42 _ []))
  refine Gl.go ?_ (fun t k => XS.iloadN X42.here hx rfl (hb hby d15_42) rfl k)
  show Gl _ _ _ _ (T42.setTop (mkF m 43 _ [(.int (3 : Int32))]))
  obtain ⟨fs, hr, hrun, hended, hW, hsame⟩ := X42.leave (v := some (.int (3 : Int32))) (fun h => by rw [Bd.returns] at h; cases h) (BodyLoose.notSynchronized Bd)
  exact Gl.mk ⟨_, _, retI X42 hx Bd.returns (hb hby d15_43) hr, hrun, hended, _, _, rfl, ⟨congrArg (fun z => some (Value.int z)) (rfl).symm, rfl, e42⟩, ⟨_, rfl⟩, hW, hsame.mono (by decide) (by decide)⟩
def f_xN_4  : Int32 := (4 : Int32)
theorem ef_rm_xN_4 (m : MethodId) (x0 : Addr) (x1 : Addr) : entryFrame m #[(.ref x0), (.ref x1)] 4 = mkF m 0 #[.val (.ref x0), .val (.ref x1), .unset, .unset] [] := by first | (simp [entryFrame, mkF, argsToLocals, Value.category]; done) | rfl
set_option maxRecDepth 65536 in
set_option maxHeartbeats 40000000 in
theorem rm_xN_4 (l : Launch) (Z : State) (a0 : Array Value) (hw : ∀ d ∈ tables_1, d.before a0 Z = true) (ws : List Jvm.Cond) (a : Addr) (A : Nat → Addr) (cs : Int32) (ea : Addr) (N : Int32) (h0 : Heap) (F_el : Fld Z h0 a "java/util/ImmutableCollections$ListN" "elements" "[Ljava/lang/Object;" (.ref ea)) (F_an : Fld Z h0 a "java/util/ImmutableCollections$ListN" "allowNulls" "Z" (.int 0)) (hRA : RA Z h0 ea (.object "java/lang/Object") N A) (hN : (4 : Int) < N.toInt) (hS0 : StrIs Z h0 (A 0) (own_ch 0)) (hS1 : StrIs Z h0 (A 1) (own_ch 1)) (hS2 : StrIs Z h0 (A 2) (own_ch 2)) (hS3 : StrIs Z h0 (A 3) (own_ch 3)) (hS4 : StrIs Z h0 (A 4) (own_ch 4)) (S_CS : Sta Z h0 "java/lang/String" "COMPACT_STRINGS" "Z" (.int cs)) (hcs : ¬ cs = 0) :
    MetFree l (⟨"java/util/ImmutableCollections$ListN", "indexOf", "(Ljava/lang/Object;)I"⟩ : MethodName) (head1 (Jvm.Cond.code (⟨"java/util/ImmutableCollections$ListN", "indexOf", "(Ljava/lang/Object;)I"⟩ : MethodName) jdk_45_method_9_code 4 (some .int) :: ws) ({ frames := 4, cells := 0, slots := 0, locals := 80 } : Room)) (fun aQ U => aQ = #[(.ref a), (.ref (A 4))] ∧ Z.Warmed39 U.vm ∧ U.heap = h0) (fun _ _ _ _ _ => True) (fun _ U o U' => ∃ vQ LQ, o = .returned vQ ∧ PQ (some (.int (f_xN_4 ))) h0 vQ U'.heap LQ ∧ FrameEnd U o U' LQ ({ frames := 4, cells := 0, slots := 0, locals := 80 } : Room).cells ({ frames := 4, cells := 0, slots := 0, locals := 80 } : Room).slots) := by
  refine MetFree.of_bodySF (plainFor_of_name pn_15) hisR ?_
  intro p e s m args below meth c s₁ Bd hml0 hP hK
  obtain ⟨rfl, hZ, hh⟩ := hP
  have hx := Bd.exec
  have hby := Bd.bytes
  have hml : c.maxLocals = 4 := hml0
  have hown : s.vm.findClass "java/util/ImmutableCollections$ListN" = some m.cls := findClass_of_methodNamed Bd.named
  have hnm := (name_of_methodNamed Bd.named Bd.method).1
  have X0 : Stand p l e ({ frames := 4, cells := 0, slots := 0, locals := 80 } : Room) s m #[(.ref a), (.ref (A 4))] below meth c s₁ [] 0 0 := Stand.of_body Bd
  have e0 : s₁.heap = h0 := by rw [← hh, Bd.state]; rfl
  refine Gl.out ?_
  refine Gl.go ?_ (fun t k => castTop (ef_rm_xN_4 m a (A 4)) k)
  show Gl _ _ _ _ (s₁.setTop (mkF m 0 _ []))
  refine Gl.go ?_ (fun t k => XS.aloadN X0.here hx rfl (hb hby d15_0) rfl rfl k)
  show Gl _ _ _ _ (s₁.setTop (mkF m 1 #[.val (.ref a), .val (.ref (A 4)), .unset, .unset] [(.ref a)]))
  obtain ⟨T43, X43, e43, st43⟩ := getF X0 hx hZ hown (host := "") (Or.inl (hw _ (List.mem_of_getElem? (i := 68) rfl))) Via.refl e0 F_an (g := (mkF m 1 #[.val (.ref a), .val (.ref (A 4)), .unset, .unset] [(.ref a)])) rfl rfl (hb hby d15_1)
  refine Gl.go ?_ st43
  show Gl _ _ _ _ (T43.setTop (mkF m 4 _ [(.int (0 : Int32))]))
  refine Gl.go ?_ (fun t k => XS.ifNo X43.here hx rfl (hb hby d15_4) rfl ((if0 _ _).trans (teq (by decide : (0 : Int32) = (0 : Int32))).2) k)
  show Gl _ _ _ _ (T43.setTop (mkF m 7 _ []))
  refine Gl.go ?_ (fun t k => XS.aloadN X43.here hx rfl (hb hby d15_7) rfl rfl k)
  show Gl _ _ _ _ (T43.setTop (mkF m 8 #[.val (.ref a), .val (.ref (A 4)), .unset, .unset] [(.ref (A 4))]))
  refine Gl.go ?_ (fun t k => XS.ifnonnullYes X43.here hx rfl (pc0 := 8) (pc' := 19) rfl (hb hby d15_8) rfl (by decide) (by decide) k)
  show Gl _ _ _ _ (T43.setTop (mkF m 19 _ []))
  refine Gl.go ?_ (fun t k => XS.aloadN X43.here hx rfl (hb hby d15_19) rfl rfl k)
  show Gl _ _ _ _ (T43.setTop (mkF m 20 #[.val (.ref a), .val (.ref (A 4)), .unset, .unset] [(.ref a)]))
  obtain ⟨T44, X44, e44, st44⟩ := getF X43 hx hZ hown (host := "") (Or.inl (hw _ (List.mem_of_getElem? (i := 66) rfl))) Via.refl e43 F_el (g := (mkF m 20 #[.val (.ref a), .val (.ref (A 4)), .unset, .unset] [(.ref a)])) rfl rfl (hb hby d15_20)
  refine Gl.go ?_ st44
  show Gl _ _ _ _ (T44.setTop (mkF m 23 #[.val (.ref a), .val (.ref (A 4)), .unset, .unset] [(.ref ea)]))
  refine Gl.go ?_ (fun t k => XS.astoreN X44.here hx rfl (hb hby d15_23) rfl rfl (l' := #[.val (.ref a), .val (.ref (A 4)), .val (.ref ea), .unset]) rfl k)
  show Gl _ _ _ _ (T44.setTop (mkF m 24 _ []))
  refine Gl.go ?_ (fun t k => XS.iconst X44.here hx rfl (hb hby d15_24) k)
  show Gl _ _ _ _ (T44.setTop (mkF m 25 #[.val (.ref a), .val (.ref (A 4)), .val (.ref ea), .unset] [(.int (0 : Int32))]))
  refine Gl.go ?_ (fun t k => XS.istoreN X44.here hx rfl (hb hby d15_25) rfl (l' := #[.val (.ref a), .val (.ref (A 4)), .val (.ref ea), .val (.int (0 : Int32))]) rfl k)
  show Gl _ _ _ _ (T44.setTop (mkF m 26 _ []))
  refine Gl.go ?_ (fun t k => XS.iloadN X44.here hx rfl (hb hby d15_26) rfl k)
  show Gl _ _ _ _ (T44.setTop (mkF m 27 _ [(.int (0 : Int32))]))
  refine Gl.go ?_ (fun t k => XS.aloadN X44.here hx rfl (hb hby d15_27) rfl rfl k)
  show Gl _ _ _ _ (T44.setTop (mkF m 28 #[.val (.ref a), .val (.ref (A 4)), .val (.ref ea), .val (.int (0 : Int32))] [(.ref ea), (.int (0 : Int32))]))
  refine Gl.go ?_ (RA.len hRA X44 hx hZ e44 (g := (mkF m 28 #[.val (.ref a), .val (.ref (A 4)), .val (.ref ea), .val (.int (0 : Int32))] [(.ref ea), (.int (0 : Int32))])) rfl rfl (hb hby d15_28))
  show Gl _ _ _ _ (T44.setTop (mkF m 29 _ [(.int N), (.int (0 : Int32))]))
  refine Gl.go ?_ (fun t k => XS.icmpNo X44.here hx rfl (hb hby d15_29) rfl (tlt (iv_gt' (k := 0) rfl (by omega))).2.1 k)
  show Gl _ _ _ _ (T44.setTop (mkF m 32 _ []))
  refine Gl.go ?_ (fun t k => XS.aloadN X44.here hx rfl (hb hby d15_32) rfl rfl k)
  show Gl _ _ _ _ (T44.setTop (mkF m 33 _ [(.ref (A 4))]))
  refine Gl.go ?_ (fun t k => XS.aloadN X44.here hx rfl (hb hby d15_33) rfl rfl k)
  show Gl _ _ _ _ (T44.setTop (mkF m 34 _ [(.ref ea), (.ref (A 4))]))
  refine Gl.go ?_ (fun t k => XS.iloadN X44.here hx rfl (hb hby d15_34) rfl k)
  show Gl _ _ _ _ (T44.setTop (mkF m 35 #[.val (.ref a), .val (.ref (A 4)), .val (.ref ea), .val (.int (0 : Int32))] [(.int (0 : Int32)), (.ref ea), (.ref (A 4))]))
  refine Gl.go ?_ (RA.rd hRA rfl X44 hx hZ e44 (by decide) (iv_gt' (k := 0) rfl (by omega)) (g := (mkF m 35 #[.val (.ref a), .val (.ref (A 4)), .val (.ref ea), .val (.int (0 : Int32))] [(.int (0 : Int32)), (.ref ea), (.ref (A 4))])) rfl rfl (hb hby d15_35))
  show Gl _ _ _ _ (T44.setTop (mkF m 36 #[.val (.ref a), .val (.ref (A 4)), .val (.ref ea), .val (.int (0 : Int32))] [(.ref (A 0)), (.ref (A 4))]))
  obtain ⟨_, _, ⟨T45, L45, k45, n45⟩, -, X45, ⟨Lc45, hQ45, l45, y45, z45⟩, st45⟩ := Jvm.LawKit.callS X44 hx (y := (⟨"java/util/Objects", "equals", "(Ljava/lang/Object;Ljava/lang/Object;)Z"⟩ : MethodName)) hown (mvT hZ (hw _ (List.mem_of_getElem? (i := 112) rfl))) (mvT hZ (hw _ (List.mem_of_getElem? (i := 113) rfl))) (mvT hZ (hw _ (List.mem_of_getElem? (i := 35) rfl))) (mvT hZ (hw _ (List.mem_of_getElem? (i := 114) rfl))) (by decide) (backOf (W := 0) (rm16 l Z a0 hw [] (A 4) (A 0) (own_ch 4) (own_ch 0) cs h0 hS4 hS0 S_CS hcs) hZ (hw _ (List.mem_of_getElem? (i := 114) rfl)) (hw _ (List.mem_of_getElem? (i := 35) rfl)) (by decide) (by decide)) (g := (mkF m 36 #[.val (.ref a), .val (.ref (A 4)), .val (.ref ea), .val (.int (0 : Int32))] [(.ref (A 0)), (.ref (A 4))])) rfl (by rw [hml]; rfl) (argsL := [(.ref (A 4)), (.ref (A 0))]) (rest := []) (lenOf pd_3 rfl) rfl (by show 2 * 0 + _ ≤ _; exact Nat.le_of_eq rfl) (hb hby d15_36) (fun _ _ => ⟨rfl, e44, (by decide : 0 + 0 ≤ _), (by decide : 0 + 0 ≤ _)⟩)
  dsimp only [Pt.U, Pt.locs, Pt.cells, Pt.slots] at X45 l45 y45 z45 st45 hQ45
  rw [l45, y45, z45] at X45
  clear l45 y45 z45
  obtain ⟨hv45, rfl, e45⟩ := hQ45
  rw [own_oeq0 (StrIs.ne hS4 hS0 (by decide)) (by decide)] at hv45
  subst hv45
  refine Gl.go ?_ st45
  show Gl _ _ _ _ (T45.setTop (mkF m 39 _ [(.int (0 : Int32))]))
  refine Gl.go ?_ (fun t k => XS.ifYes X45.here hx rfl (pc0 := 39) (pc' := 44) rfl (hb hby d15_39) rfl ((if0 _ _).trans (teq (by decide : (0 : Int32) = (0 : Int32))).1) (by decide) (by decide) k)
  show Gl _ _ _ _ (T45.setTop (mkF m 44 #[.val (.ref a), .val (.ref (A 4)), .val (.ref ea), .val (.int (0 : Int32))] []))
  refine Gl.go ?_ (fun t k => XS.iinc X45.here hx rfl (hb hby d15_44) rfl (l' := #[.val (.ref a), .val (.ref (A 4)), .val (.ref ea), .val (.int (1 : Int32))]) rfl k)
  show Gl _ _ _ _ (T45.setTop (mkF m 47 _ []))
  refine Gl.go ?_ (fun t k => XS.goto X45.here hx rfl (pc0 := 47) (pc' := 26) rfl (hb hby d15_47) (by decide) (by decide) k)
  show Gl _ _ _ _ (T45.setTop (mkF m 26 _ []))
  refine Gl.go ?_ (fun t k => XS.iloadN X45.here hx rfl (hb hby d15_26) rfl k)
  show Gl _ _ _ _ (T45.setTop (mkF m 27 _ [(.int (1 : Int32))]))
  refine Gl.go ?_ (fun t k => XS.aloadN X45.here hx rfl (hb hby d15_27) rfl rfl k)
  show Gl _ _ _ _ (T45.setTop (mkF m 28 #[.val (.ref a), .val (.ref (A 4)), .val (.ref ea), .val (.int (1 : Int32))] [(.ref ea), (.int (1 : Int32))]))
  refine Gl.go ?_ (RA.len hRA X45 hx hZ e45 (g := (mkF m 28 #[.val (.ref a), .val (.ref (A 4)), .val (.ref ea), .val (.int (1 : Int32))] [(.ref ea), (.int (1 : Int32))])) rfl rfl (hb hby d15_28))
  show Gl _ _ _ _ (T45.setTop (mkF m 29 _ [(.int N), (.int (1 : Int32))]))
  refine Gl.go ?_ (fun t k => XS.icmpNo X45.here hx rfl (hb hby d15_29) rfl (tlt (iv_gt' (k := 1) rfl (by omega))).2.1 k)
  show Gl _ _ _ _ (T45.setTop (mkF m 32 _ []))
  refine Gl.go ?_ (fun t k => XS.aloadN X45.here hx rfl (hb hby d15_32) rfl rfl k)
  show Gl _ _ _ _ (T45.setTop (mkF m 33 _ [(.ref (A 4))]))
  refine Gl.go ?_ (fun t k => XS.aloadN X45.here hx rfl (hb hby d15_33) rfl rfl k)
  show Gl _ _ _ _ (T45.setTop (mkF m 34 _ [(.ref ea), (.ref (A 4))]))
  refine Gl.go ?_ (fun t k => XS.iloadN X45.here hx rfl (hb hby d15_34) rfl k)
  show Gl _ _ _ _ (T45.setTop (mkF m 35 #[.val (.ref a), .val (.ref (A 4)), .val (.ref ea), .val (.int (1 : Int32))] [(.int (1 : Int32)), (.ref ea), (.ref (A 4))]))
  refine Gl.go ?_ (RA.rd hRA rfl X45 hx hZ e45 (by decide) (iv_gt' (k := 1) rfl (by omega)) (g := (mkF m 35 #[.val (.ref a), .val (.ref (A 4)), .val (.ref ea), .val (.int (1 : Int32))] [(.int (1 : Int32)), (.ref ea), (.ref (A 4))])) rfl rfl (hb hby d15_35))
  show Gl _ _ _ _ (T45.setTop (mkF m 36 #[.val (.ref a), .val (.ref (A 4)), .val (.ref ea), .val (.int (1 : Int32))] [(.ref (A 1)), (.ref (A 4))]))
  obtain ⟨_, _, ⟨T46, L46, k46, n46⟩, -, X46, ⟨Lc46, hQ46, l46, y46, z46⟩, st46⟩ := Jvm.LawKit.callS X45 hx (y := (⟨"java/util/Objects", "equals", "(Ljava/lang/Object;Ljava/lang/Object;)Z"⟩ : MethodName)) hown (mvT hZ (hw _ (List.mem_of_getElem? (i := 112) rfl))) (mvT hZ (hw _ (List.mem_of_getElem? (i := 113) rfl))) (mvT hZ (hw _ (List.mem_of_getElem? (i := 35) rfl))) (mvT hZ (hw _ (List.mem_of_getElem? (i := 114) rfl))) (by decide) (backOf (W := 0) (rm16 l Z a0 hw [] (A 4) (A 1) (own_ch 4) (own_ch 1) cs h0 hS4 hS1 S_CS hcs) hZ (hw _ (List.mem_of_getElem? (i := 114) rfl)) (hw _ (List.mem_of_getElem? (i := 35) rfl)) (by decide) (by decide)) (g := (mkF m 36 #[.val (.ref a), .val (.ref (A 4)), .val (.ref ea), .val (.int (1 : Int32))] [(.ref (A 1)), (.ref (A 4))])) rfl (by rw [hml]; rfl) (argsL := [(.ref (A 4)), (.ref (A 1))]) (rest := []) (lenOf pd_3 rfl) rfl (by show 2 * 0 + _ ≤ _; exact Nat.le_of_eq rfl) (hb hby d15_36) (fun _ _ => ⟨rfl, e45, (by decide : 0 + 0 ≤ _), (by decide : 0 + 0 ≤ _)⟩)
  dsimp only [Pt.U, Pt.locs, Pt.cells, Pt.slots] at X46 l46 y46 z46 st46 hQ46
  rw [l46, y46, z46] at X46
  clear l46 y46 z46
  obtain ⟨hv46, rfl, e46⟩ := hQ46
  rw [own_oeq0 (StrIs.ne hS4 hS1 (by decide)) (by decide)] at hv46
  subst hv46
  refine Gl.go ?_ st46
  show Gl _ _ _ _ (T46.setTop (mkF m 39 _ [(.int (0 : Int32))]))
  refine Gl.go ?_ (fun t k => XS.ifYes X46.here hx rfl (pc0 := 39) (pc' := 44) rfl (hb hby d15_39) rfl ((if0 _ _).trans (teq (by decide : (0 : Int32) = (0 : Int32))).1) (by decide) (by decide) k)
  show Gl _ _ _ _ (T46.setTop (mkF m 44 #[.val (.ref a), .val (.ref (A 4)), .val (.ref ea), .val (.int (1 : Int32))] []))
  refine Gl.go ?_ (fun t k => XS.iinc X46.here hx rfl (hb hby d15_44) rfl (l' := #[.val (.ref a), .val (.ref (A 4)), .val (.ref ea), .val (.int (2 : Int32))]) rfl k)
  show Gl _ _ _ _ (T46.setTop (mkF m 47 _ []))
  refine Gl.go ?_ (fun t k => XS.goto X46.here hx rfl (pc0 := 47) (pc' := 26) rfl (hb hby d15_47) (by decide) (by decide) k)
  show Gl _ _ _ _ (T46.setTop (mkF m 26 _ []))
  refine Gl.go ?_ (fun t k => XS.iloadN X46.here hx rfl (hb hby d15_26) rfl k)
  show Gl _ _ _ _ (T46.setTop (mkF m 27 _ [(.int (2 : Int32))]))
  refine Gl.go ?_ (fun t k => XS.aloadN X46.here hx rfl (hb hby d15_27) rfl rfl k)
  show Gl _ _ _ _ (T46.setTop (mkF m 28 #[.val (.ref a), .val (.ref (A 4)), .val (.ref ea), .val (.int (2 : Int32))] [(.ref ea), (.int (2 : Int32))]))
  refine Gl.go ?_ (RA.len hRA X46 hx hZ e46 (g := (mkF m 28 #[.val (.ref a), .val (.ref (A 4)), .val (.ref ea), .val (.int (2 : Int32))] [(.ref ea), (.int (2 : Int32))])) rfl rfl (hb hby d15_28))
  show Gl _ _ _ _ (T46.setTop (mkF m 29 _ [(.int N), (.int (2 : Int32))]))
  refine Gl.go ?_ (fun t k => XS.icmpNo X46.here hx rfl (hb hby d15_29) rfl (tlt (iv_gt' (k := 2) rfl (by omega))).2.1 k)
  show Gl _ _ _ _ (T46.setTop (mkF m 32 _ []))
  refine Gl.go ?_ (fun t k => XS.aloadN X46.here hx rfl (hb hby d15_32) rfl rfl k)
  show Gl _ _ _ _ (T46.setTop (mkF m 33 _ [(.ref (A 4))]))
  refine Gl.go ?_ (fun t k => XS.aloadN X46.here hx rfl (hb hby d15_33) rfl rfl k)
  show Gl _ _ _ _ (T46.setTop (mkF m 34 _ [(.ref ea), (.ref (A 4))]))
  refine Gl.go ?_ (fun t k => XS.iloadN X46.here hx rfl (hb hby d15_34) rfl k)
  show Gl _ _ _ _ (T46.setTop (mkF m 35 #[.val (.ref a), .val (.ref (A 4)), .val (.ref ea), .val (.int (2 : Int32))] [(.int (2 : Int32)), (.ref ea), (.ref (A 4))]))
  refine Gl.go ?_ (RA.rd hRA rfl X46 hx hZ e46 (by decide) (iv_gt' (k := 2) rfl (by omega)) (g := (mkF m 35 #[.val (.ref a), .val (.ref (A 4)), .val (.ref ea), .val (.int (2 : Int32))] [(.int (2 : Int32)), (.ref ea), (.ref (A 4))])) rfl rfl (hb hby d15_35))
  show Gl _ _ _ _ (T46.setTop (mkF m 36 #[.val (.ref a), .val (.ref (A 4)), .val (.ref ea), .val (.int (2 : Int32))] [(.ref (A 2)), (.ref (A 4))]))
  obtain ⟨_, _, ⟨T47, L47, k47, n47⟩, -, X47, ⟨Lc47, hQ47, l47, y47, z47⟩, st47⟩ := Jvm.LawKit.callS X46 hx (y := (⟨"java/util/Objects", "equals", "(Ljava/lang/Object;Ljava/lang/Object;)Z"⟩ : MethodName)) hown (mvT hZ (hw _ (List.mem_of_getElem? (i := 112) rfl))) (mvT hZ (hw _ (List.mem_of_getElem? (i := 113) rfl))) (mvT hZ (hw _ (List.mem_of_getElem? (i := 35) rfl))) (mvT hZ (hw _ (List.mem_of_getElem? (i := 114) rfl))) (by decide) (backOf (W := 0) (rm16 l Z a0 hw [] (A 4) (A 2) (own_ch 4) (own_ch 2) cs h0 hS4 hS2 S_CS hcs) hZ (hw _ (List.mem_of_getElem? (i := 114) rfl)) (hw _ (List.mem_of_getElem? (i := 35) rfl)) (by decide) (by decide)) (g := (mkF m 36 #[.val (.ref a), .val (.ref (A 4)), .val (.ref ea), .val (.int (2 : Int32))] [(.ref (A 2)), (.ref (A 4))])) rfl (by rw [hml]; rfl) (argsL := [(.ref (A 4)), (.ref (A 2))]) (rest := []) (lenOf pd_3 rfl) rfl (by show 2 * 0 + _ ≤ _; exact Nat.le_of_eq rfl) (hb hby d15_36) (fun _ _ => ⟨rfl, e46, (by decide : 0 + 0 ≤ _), (by decide : 0 + 0 ≤ _)⟩)
  dsimp only [Pt.U, Pt.locs, Pt.cells, Pt.slots] at X47 l47 y47 z47 st47 hQ47
  rw [l47, y47, z47] at X47
  clear l47 y47 z47
  obtain ⟨hv47, rfl, e47⟩ := hQ47
  rw [own_oeq0 (StrIs.ne hS4 hS2 (by decide)) (by decide)] at hv47
  subst hv47
  refine Gl.go ?_ st47
  show Gl _ _ _ _ (T47.setTop (mkF m 39 _ [(.int (0 : Int32))]))
  refine Gl.go ?_ (fun t k => XS.ifYes X47.here hx rfl (pc0 := 39) (pc' := 44) rfl (hb hby d15_39) rfl ((if0 _ _).trans (teq (by decide : (0 : Int32) = (0 : Int32))).1) (by decide) (by decide) k)
  show Gl _ _ _ _ (T47.setTop (mkF m 44 #[.val (.ref a), .val (.ref (A 4)), .val (.ref ea), .val (.int (2 : Int32))] []))
  refine Gl.go ?_ (fun t k => XS.iinc X47.here hx rfl (hb hby d15_44) rfl (l' := #[.val (.ref a), .val (.ref (A 4)), .val (.ref ea), .val (.int (3 : Int32))]) rfl k)
  show Gl _ _ _ _ (T47.setTop (mkF m 47 _ []))
  refine Gl.go ?_ (fun t k => XS.goto X47.here hx rfl (pc0 := 47) (pc' := 26) rfl (hb hby d15_47) (by decide) (by decide) k)
  show Gl _ _ _ _ (T47.setTop (mkF m 26 _ []))
  refine Gl.go ?_ (fun t k => XS.iloadN X47.here hx rfl (hb hby d15_26) rfl k)
  show Gl _ _ _ _ (T47.setTop (mkF m 27 _ [(.int (3 : Int32))]))
  refine Gl.go ?_ (fun t k => XS.aloadN X47.here hx rfl (hb hby d15_27) rfl rfl k)
  show Gl _ _ _ _ (T47.setTop (mkF m 28 #[.val (.ref a), .val (.ref (A 4)), .val (.ref ea), .val (.int (3 : Int32))] [(.ref ea), (.int (3 : Int32))]))
  refine Gl.go ?_ (RA.len hRA X47 hx hZ e47 (g := (mkF m 28 #[.val (.ref a), .val (.ref (A 4)), .val (.ref ea), .val (.int (3 : Int32))] [(.ref ea), (.int (3 : Int32))])) rfl rfl (hb hby d15_28))
  show Gl _ _ _ _ (T47.setTop (mkF m 29 _ [(.int N), (.int (3 : Int32))]))
  refine Gl.go ?_ (fun t k => XS.icmpNo X47.here hx rfl (hb hby d15_29) rfl (tlt (iv_gt' (k := 3) rfl (by omega))).2.1 k)
  show Gl _ _ _ _ (T47.setTop (mkF m 32 _ []))
  refine Gl.go ?_ (fun t k => XS.aloadN X47.here hx rfl (hb hby d15_32) rfl rfl k)
  show Gl _ _ _ _ (T47.setTop (mkF m 33 _ [(.ref (A 4))]))
  refine Gl.go ?_ (fun t k => XS.aloadN X47.here hx rfl (hb hby d15_33) rfl rfl k)
  show Gl _ _ _ _ (T47.setTop (mkF m 34 _ [(.ref ea), (.ref (A 4))]))
  refine Gl.go ?_ (fun t k => XS.iloadN X47.here hx rfl (hb hby d15_34) rfl k)
  show Gl _ _ _ _ (T47.setTop (mkF m 35 #[.val (.ref a), .val (.ref (A 4)), .val (.ref ea), .val (.int (3 : Int32))] [(.int (3 : Int32)), (.ref ea), (.ref (A 4))]))
  refine Gl.go ?_ (RA.rd hRA rfl X47 hx hZ e47 (by decide) (iv_gt' (k := 3) rfl (by omega)) (g := (mkF m 35 #[.val (.ref a), .val (.ref (A 4)), .val (.ref ea), .val (.int (3 : Int32))] [(.int (3 : Int32)), (.ref ea), (.ref (A 4))])) rfl rfl (hb hby d15_35))
  show Gl _ _ _ _ (T47.setTop (mkF m 36 #[.val (.ref a), .val (.ref (A 4)), .val (.ref ea), .val (.int (3 : Int32))] [(.ref (A 3)), (.ref (A 4))]))
  obtain ⟨_, _, ⟨T48, L48, k48, n48⟩, -, X48, ⟨Lc48, hQ48, l48, y48, z48⟩, st48⟩ := Jvm.LawKit.callS X47 hx (y := (⟨"java/util/Objects", "equals", "(Ljava/lang/Object;Ljava/lang/Object;)Z"⟩ : MethodName)) hown (mvT hZ (hw _ (List.mem_of_getElem? (i := 112) rfl))) (mvT hZ (hw _ (List.mem_of_getElem? (i := 113) rfl))) (mvT hZ (hw _ (List.mem_of_getElem? (i := 35) rfl))) (mvT hZ (hw _ (List.mem_of_getElem? (i := 114) rfl))) (by decide) (backOf (W := 0) (rm16 l Z a0 hw [] (A 4) (A 3) (own_ch 4) (own_ch 3) cs h0 hS4 hS3 S_CS hcs) hZ (hw _ (List.mem_of_getElem? (i := 114) rfl)) (hw _ (List.mem_of_getElem? (i := 35) rfl)) (by decide) (by decide)) (g := (mkF m 36 #[.val (.ref a), .val (.ref (A 4)), .val (.ref ea), .val (.int (3 : Int32))] [(.ref (A 3)), (.ref (A 4))])) rfl (by rw [hml]; rfl) (argsL := [(.ref (A 4)), (.ref (A 3))]) (rest := []) (lenOf pd_3 rfl) rfl (by show 2 * 0 + _ ≤ _; exact Nat.le_of_eq rfl) (hb hby d15_36) (fun _ _ => ⟨rfl, e47, (by decide : 0 + 0 ≤ _), (by decide : 0 + 0 ≤ _)⟩)
  dsimp only [Pt.U, Pt.locs, Pt.cells, Pt.slots] at X48 l48 y48 z48 st48 hQ48
  rw [l48, y48, z48] at X48
  clear l48 y48 z48
  obtain ⟨hv48, rfl, e48⟩ := hQ48
  rw [own_oeq0 (StrIs.ne hS4 hS3 (by decide)) (by decide)] at hv48
  subst hv48
  refine Gl.go ?_ st48
  show Gl _ _ _ _ (T48.setTop (mkF m 39 _ [(.int (0 : Int32))]))
  refine Gl.go ?_ (fun t k => XS.ifYes X48.here hx rfl (pc0 := 39) (pc' := 44) rfl (hb hby d15_39) rfl ((if0 _ _).trans (teq (by decide : (0 : Int32) = (0 : Int32))).1) (by decide) (by decide) k)
  show Gl _ _ _ _ (T48.setTop (mkF m 44 #[.val (.ref a), .val (.ref (A 4)), .val (.ref ea), .val (.int (3 : Int32))] []))
  refine Gl.go ?_ (fun t k => XS.iinc X48.here hx rfl (hb hby d15_44) rfl (l' := #[.val (.ref a), .val (.ref (A 4)), .val (.ref ea), .val (.int (4 : Int32))]) rfl k)
  show Gl _ _ _ _ (T48.setTop (mkF m 47 _ []))
  refine Gl.go ?_ (fun t k => XS.goto X48.here hx rfl (pc0 := 47) (pc' := 26) rfl (hb hby d15_47) (by decide) (by decide) k)
  show Gl _ _ _ _ (T48.setTop (mkF m 26 _ []))
  refine Gl.go ?_ (fun t k => XS.iloadN X48.here hx rfl (hb hby d15_26) rfl k)
  show Gl _ _ _ _ (T48.setTop (mkF m 27 _ [(.int (4 : Int32))]))
  refine Gl.go ?_ (fun t k => XS.aloadN X48.here hx rfl (hb hby d15_27) rfl rfl k)
  show Gl _ _ _ _ (T48.setTop (mkF m 28 #[.val (.ref a), .val (.ref (A 4)), .val (.ref ea), .val (.int (4 : Int32))] [(.ref ea), (.int (4 : Int32))]))
  refine Gl.go ?_ (RA.len hRA X48 hx hZ e48 (g := (mkF m 28 #[.val (.ref a), .val (.ref (A 4)), .val (.ref ea), .val (.int (4 : Int32))] [(.ref ea), (.int (4 : Int32))])) rfl rfl (hb hby d15_28))
  show Gl _ _ _ _ (T48.setTop (mkF m 29 _ [(.int N), (.int (4 : Int32))]))
  refine Gl.go ?_ (fun t k => XS.icmpNo X48.here hx rfl (hb hby d15_29) rfl (tlt (iv_gt' (k := 4) rfl (by omega))).2.1 k)
  show Gl _ _ _ _ (T48.setTop (mkF m 32 _ []))
  refine Gl.go ?_ (fun t k => XS.aloadN X48.here hx rfl (hb hby d15_32) rfl rfl k)
  show Gl _ _ _ _ (T48.setTop (mkF m 33 _ [(.ref (A 4))]))
  refine Gl.go ?_ (fun t k => XS.aloadN X48.here hx rfl (hb hby d15_33) rfl rfl k)
  show Gl _ _ _ _ (T48.setTop (mkF m 34 _ [(.ref ea), (.ref (A 4))]))
  refine Gl.go ?_ (fun t k => XS.iloadN X48.here hx rfl (hb hby d15_34) rfl k)
  show Gl _ _ _ _ (T48.setTop (mkF m 35 #[.val (.ref a), .val (.ref (A 4)), .val (.ref ea), .val (.int (4 : Int32))] [(.int (4 : Int32)), (.ref ea), (.ref (A 4))]))
  refine Gl.go ?_ (RA.rd hRA rfl X48 hx hZ e48 (by decide) (iv_gt' (k := 4) rfl (by omega)) (g := (mkF m 35 #[.val (.ref a), .val (.ref (A 4)), .val (.ref ea), .val (.int (4 : Int32))] [(.int (4 : Int32)), (.ref ea), (.ref (A 4))])) rfl rfl (hb hby d15_35))
  show Gl _ _ _ _ (T48.setTop (mkF m 36 #[.val (.ref a), .val (.ref (A 4)), .val (.ref ea), .val (.int (4 : Int32))] [(.ref (A 4)), (.ref (A 4))]))
  obtain ⟨_, _, ⟨T49, L49, k49, n49⟩, -, X49, ⟨Lc49, hQ49, l49, y49, z49⟩, st49⟩ := Jvm.LawKit.callS X48 hx (y := (⟨"java/util/Objects", "equals", "(Ljava/lang/Object;Ljava/lang/Object;)Z"⟩ : MethodName)) hown (mvT hZ (hw _ (List.mem_of_getElem? (i := 112) rfl))) (mvT hZ (hw _ (List.mem_of_getElem? (i := 113) rfl))) (mvT hZ (hw _ (List.mem_of_getElem? (i := 35) rfl))) (mvT hZ (hw _ (List.mem_of_getElem? (i := 114) rfl))) (by decide) (backOf (W := 0) (rm16 l Z a0 hw [] (A 4) (A 4) (own_ch 4) (own_ch 4) cs h0 hS4 hS4 S_CS hcs) hZ (hw _ (List.mem_of_getElem? (i := 114) rfl)) (hw _ (List.mem_of_getElem? (i := 35) rfl)) (by decide) (by decide)) (g := (mkF m 36 #[.val (.ref a), .val (.ref (A 4)), .val (.ref ea), .val (.int (4 : Int32))] [(.ref (A 4)), (.ref (A 4))])) rfl (by rw [hml]; rfl) (argsL := [(.ref (A 4)), (.ref (A 4))]) (rest := []) (lenOf pd_3 rfl) rfl (by show 2 * 0 + _ ≤ _; exact Nat.le_of_eq rfl) (hb hby d15_36) (fun _ _ => ⟨rfl, e48, (by decide : 0 + 0 ≤ _), (by decide : 0 + 0 ≤ _)⟩)
  dsimp only [Pt.U, Pt.locs, Pt.cells, Pt.slots] at X49 l49 y49 z49 st49 hQ49
  rw [l49, y49, z49] at X49
  clear l49 y49 z49
  obtain ⟨hv49, rfl, e49⟩ := hQ49
  rw [own_oeq1 _ _] at hv49
  subst hv49
  refine Gl.go ?_ st49
  show Gl _ _ _ _ (T49.setTop (mkF m 39 _ [(.int (1 : Int32))]))
  refine Gl.go ?_ (fun t k => XS.ifNo X49.here hx rfl (hb hby d15_39) rfl ((if0 _ _).trans (feq (by decide : ¬ ((1 : Int32) = (0 : Int32)))).1) k)
  show Gl _ _ _ _ (T49.setTop (mkF m 42 _ []))
  refine Gl.go ?_ (fun t k => XS.iloadN X49.here hx rfl (hb hby d15_42) rfl k)
  show Gl _ _ _ _ (T49.setTop (mkF m 43 _ [(.int (4 : Int32))]))
  obtain ⟨fs, hr, hrun, hended, hW, hsame⟩ := X49.leave (v := some (.int (4 : Int32))) (fun h => by rw [Bd.returns] at h; cases h) (BodyLoose.notSynchronized Bd)
  exact Gl.mk ⟨_, _, retI X49 hx Bd.returns (hb hby d15_43) hr, hrun, hended, _, _, rfl, ⟨congrArg (fun z => some (Value.int z)) (rfl).symm, rfl, e49⟩, ⟨_, rfl⟩, hW, hsame.mono (by decide) (by decide)⟩
theorem d14_0 : decode prog_18_method_6_code 0 = .ok (.aload_n 0, 1) := by decide +kernel
theorem d14_1 : decode prog_18_method_6_code 1 = .ok (.getfield 22, 3) := by decide +kernel
theorem d14_4 : decode prog_18_method_6_code 4 = .ok (.aload_n 1, 1) := by decide +kernel
theorem d14_5 : decode prog_18_method_6_code 5 = .ok (.invokeinterface 75 2, 5) := by decide +kernel
theorem d14_10 : decode prog_18_method_6_code 10 = .ok (.istore_n 2, 1) := by decide +kernel
theorem d14_11 : decode prog_18_method_6_code 11 = .ok (.iload_n 2, 1) := by decide +kernel
theorem d14_12 : decode prog_18_method_6_code 12 = .ok (.ifCond .ge 24, 3) := by decide +kernel
theorem d14_15 : decode prog_18_method_6_code 15 = .ok (.new 83, 3) := by decide +kernel
theorem d14_18 : decode prog_18_method_6_code 18 = .ok (.dup, 1) := by decide +kernel
theorem d14_19 : decode prog_18_method_6_code 19 = .ok (.aload_n 1, 1) := by decide +kernel
theorem d14_20 : decode prog_18_method_6_code 20 = .ok (.aload_n 0, 1) := by decide +kernel
theorem d14_21 : decode prog_18_method_6_code 21 = .ok (.getfield 22, 3) := by decide +kernel
theorem d14_24 : decode prog_18_method_6_code 24 = .ok (.invokestatic 85, 3) := by decide +kernel
theorem d14_32 : decode prog_18_method_6_code 32 = .ok (.invokespecial 92, 3) := by decide +kernel
theorem d14_35 : decode prog_18_method_6_code 35 = .ok (.athrow, 1) := by decide +kernel
theorem d14_36 : decode prog_18_method_6_code 36 = .ok (.iload_n 2, 1) := by decide +kernel
theorem d14_37 : decode prog_18_method_6_code 37 = .ok (.ireturn, 1) := by decide +kernel
theorem pn_14 : plainName "com/example/grantline/grantline/engine/Actions" = true := by first | (simp [plainName, overriddenIn]; done) | decide +kernel
theorem pd_4 : parseMethodDescriptor "(Ljava/lang/Object;)I" = some ⟨[(.object "java/lang/Object")], some .int⟩ := by decide +kernel
def f_ix12_0  : Int32 := (0 : Int32)
theorem ef_rm_ix12_0 (m : MethodId) (x0 : Addr) (x1 : Addr) : entryFrame m #[(.ref x0), (.ref x1)] 3 = mkF m 0 #[.val (.ref x0), .val (.ref x1), .unset] [] := by first | (simp [entryFrame, mkF, argsToLocals, Value.category]; done) | rfl
set_option maxRecDepth 65536 in
set_option maxHeartbeats 40000000 in
theorem rm_ix12_0 (l : Launch) (Z : State) (a0 : Array Value) (hw : ∀ d ∈ tables_1, d.before a0 Z = true) (ws : List Jvm.Cond) (a : Addr) (A : Nat → Addr) (cs : Int32) (em ls : Addr) (h0 : Heap) (F_nm : Fld Z h0 a "com/example/grantline/grantline/engine/Actions" "names" "Ljava/util/List;" (.ref ls)) (E_l : Exa Z h0 ls "java/util/ImmutableCollections$List12") (F_e0 : Fld Z h0 ls "java/util/ImmutableCollections$List12" "e0" "Ljava/lang/Object;" (.ref (A 0))) (hS0 : StrIs Z h0 (A 0) (own_ch 0)) (S_CS : Sta Z h0 "java/lang/String" "COMPACT_STRINGS" "Z" (.int cs)) (hcs : ¬ cs = 0) :
    MetFree l (⟨"com/example/grantline/grantline/engine/Actions", "index", "(Ljava/lang/String;)I"⟩ : MethodName) (head1 (Jvm.Cond.code (⟨"com/example/grantline/grantline/engine/Actions", "index", "(Ljava/lang/String;)I"⟩ : MethodName) prog_18_method_6_code 3 (some .int) :: ws) ({ frames := 6, cells := 0, slots := 0, locals := 120 } : Room)) (fun aQ U => aQ = #[(.ref a), (.ref (A 0))] ∧ Z.Warmed39 U.vm ∧ U.heap = h0) (fun _ _ _ _ _ => True) (fun _ U o U' => ∃ vQ LQ, o = .returned vQ ∧ PQ (some (.int (f_ix12_0 ))) h0 vQ U'.heap LQ ∧ FrameEnd U o U' LQ ({ frames := 6, cells := 0, slots := 0, locals := 120 } : Room).cells ({ frames := 6, cells := 0, slots := 0, locals := 120 } : Room).slots) := by
  refine MetFree.of_bodySF (plainFor_of_name pn_14) hisR ?_
  intro p e s m args below meth c s₁ Bd hml0 hP hK
  obtain ⟨rfl, hZ, hh⟩ := hP
  have hx := Bd.exec
  have hby := Bd.bytes
  have hml : c.maxLocals = 3 := hml0
  have hown : s.vm.findClass "com/example/grantline/grantline/engine/Actions" = some m.cls := findClass_of_methodNamed Bd.named
  have hnm := (name_of_methodNamed Bd.named Bd.method).1
  have X0 : Stand p l e ({ frames := 6, cells := 0, slots := 0, locals := 120 } : Room) s m #[(.ref a), (.ref (A 0))] below meth c s₁ [] 0 0 := Stand.of_body Bd
  have e0 : s₁.heap = h0 := by rw [← hh, Bd.state]; rfl
  refine Gl.out ?_
  refine Gl.go ?_ (fun t k => castTop (ef_rm_ix12_0 m a (A 0)) k)
  show Gl _ _ _ _ (s₁.setTop (mkF m 0 _ []))
  refine Gl.go ?_ (fun t k => XS.aloadN X0.here hx rfl (hb hby d14_0) rfl rfl k)
  show Gl _ _ _ _ (s₁.setTop (mkF m 1 #[.val (.ref a), .val (.ref (A 0)), .unset] [(.ref a)]))
  obtain ⟨T50, X50, e50, st50⟩ := getF X0 hx hZ hown (host := "") (Or.inl (hw _ (List.mem_of_getElem? (i := 75) rfl))) Via.refl e0 F_nm (g := (mkF m 1 #[.val (.ref a), .val (.ref (A 0)), .unset] [(.ref a)])) rfl rfl (hb hby d14_1)
  refine Gl.go ?_ st50
  show Gl _ _ _ _ (T50.setTop (mkF m 4 _ [(.ref ls)]))
  refine Gl.go ?_ (fun t k => XS.aloadN X50.here hx rfl (hb hby d14_4) rfl rfl k)
  show Gl _ _ _ _ (T50.setTop (mkF m 5 #[.val (.ref a), .val (.ref (A 0)), .unset] [(.ref (A 0)), (.ref ls)]))
  obtain ⟨cq51, kq51, q51a, q51b, q51c⟩ := isOf hZ e50 E_l
  obtain ⟨_, _, ⟨T51, L51, k51, n51⟩, -, X51, ⟨Lc51, hQ51, l51, y51, z51⟩, st51⟩ := X50.interfaceBack hx (xi := (⟨"java/util/List", "indexOf", "(Ljava/lang/Object;)I"⟩ : MethodName)) (y := (⟨"java/util/ImmutableCollections$List12", "indexOf", "(Ljava/lang/Object;)I"⟩ : MethodName)) hown (mvT hZ (hw _ (List.mem_of_getElem? (i := 103) rfl))) (mvT hZ (hw _ (List.mem_of_getElem? (i := 104) rfl))) (mvT hZ (hw _ (List.mem_of_getElem? (i := 105) rfl))) (mvT hZ (hw _ (List.mem_of_getElem? (i := 146) rfl))) (mvT hZ (hw _ (List.mem_of_getElem? (i := 147) rfl))) (mvT hZ (hw _ (List.mem_of_getElem? (i := 148) rfl))) (mvT hZ (hw _ (List.mem_of_getElem? (i := 149) rfl))) (mvT hZ (hw _ (List.mem_of_getElem? (i := 150) rfl))) (by decide) (backOf (W := 0) (rm_x12_0 l Z a0 hw [] ls A cs em h0 F_e0 hS0 S_CS hcs) hZ (hw _ (List.mem_of_getElem? (i := 151) rfl)) (hw _ (List.mem_of_getElem? (i := 132) rfl)) (by decide) (by decide)) q51a q51b q51c (g := (mkF m 5 #[.val (.ref a), .val (.ref (A 0)), .unset] [(.ref (A 0)), (.ref ls)])) rfl (by rw [hml]; rfl) (Steps.refl _) (argsL := [(.ref (A 0))]) (rest := []) (lenOf pd_4 rfl) rfl (by show 2 * 0 + _ ≤ _; exact Nat.le_of_eq rfl) (hb hby d14_5) (fun _ _ => ⟨rfl, e50, (by decide : 0 + 0 ≤ _), (by decide : 0 + 0 ≤ _)⟩)
  dsimp only [Pt.U, Pt.locs, Pt.cells, Pt.slots] at X51 l51 y51 z51 st51 hQ51
  rw [l51, y51, z51] at X51
  clear l51 y51 z51
  obtain ⟨rfl, rfl, e51⟩ := hQ51
  refine Gl.tr ?_ st51
  show Gl _ _ _ _ (T51.setTop (mkF m 10 #[.val (.ref a), .val (.ref (A 0)), .unset] [(.int (0 : Int32))]))
  refine Gl.go ?_ (fun t k => XS.istoreN X51.here hx rfl (hb hby d14_10) rfl (l' := #[.val (.ref a), .val (.ref (A 0)), .val (.int (0 : Int32))]) rfl k)
  show Gl _ _ _ _ (T51.setTop (mkF m 11 _ []))
  refine Gl.go ?_ (fun t k => XS.iloadN X51.here hx rfl (hb hby d14_11) rfl k)
  show Gl _ _ _ _ (T51.setTop (mkF m 12 _ [(.int (0 : Int32))]))
  refine Gl.go ?_ (fun t k => XS.ifYes X51.here hx rfl (pc0 := 12) (pc' := 36) rfl (hb hby d14_12) rfl ((if0 _ _).trans (flt (by decide : ¬ ((0 : Int32) < (0 : Int32)))).2.1) (by decide) (by decide) k)
  show Gl _ _ _ _ (T51.setTop (mkF m 36 _ []))
  refine Gl.go ?_ (fun t k => XS.iloadN X51.here hx rfl (hb hby d14_36) rfl k)
  show Gl _ _ _ _ (T51.setTop (mkF m 37 _ [(.int (0 : Int32))]))
  obtain ⟨fs, hr, hrun, hended, hW, hsame⟩ := X51.leave (v := some (.int (0 : Int32))) (fun h => by rw [Bd.returns] at h; cases h) (BodyLoose.notSynchronized Bd)
  exact Gl.mk ⟨_, _, retI X51 hx Bd.returns (hb hby d14_37) hr, hrun, hended, _, _, rfl, ⟨congrArg (fun z => some (Value.int z)) (rfl).symm, rfl, e51⟩, ⟨_, rfl⟩, hW, hsame.mono (by decide) (by decide)⟩
def f_ix12_1  : Int32 := (1 : Int32)
theorem ef_rm_ix12_1 (m : MethodId) (x0 : Addr) (x1 : Addr) : entryFrame m #[(.ref x0), (.ref x1)] 3 = mkF m 0 #[.val (.ref x0), .val (.ref x1), .unset] [] := by first | (simp [entryFrame, mkF, argsToLocals, Value.category]; done) | rfl
set_option maxRecDepth 65536 in
set_option maxHeartbeats 40000000 in
theorem rm_ix12_1 (l : Launch) (Z : State) (a0 : Array Value) (hw : ∀ d ∈ tables_1, d.before a0 Z = true) (ws : List Jvm.Cond) (a : Addr) (A : Nat → Addr) (cs : Int32) (em ls : Addr) (h0 : Heap) (F_nm : Fld Z h0 a "com/example/grantline/grantline/engine/Actions" "names" "Ljava/util/List;" (.ref ls)) (E_l : Exa Z h0 ls "java/util/ImmutableCollections$List12") (F_e0 : Fld Z h0 ls "java/util/ImmutableCollections$List12" "e0" "Ljava/lang/Object;" (.ref (A 0))) (F_e1 : Fld Z h0 ls "java/util/ImmutableCollections$List12" "e1" "Ljava/lang/Object;" (.ref (A 1))) (S_EM : Sta Z h0 "java/util/ImmutableCollections" "EMPTY" "Ljava/lang/Object;" (.ref em)) (hem : (A 1) ≠ em) (hS0 : StrIs Z h0 (A 0) (own_ch 0)) (hS1 : StrIs Z h0 (A 1) (own_ch 1)) (S_CS : Sta Z h0 "java/lang/String" "COMPACT_STRINGS" "Z" (.int cs)) (hcs : ¬ cs = 0) :
    MetFree l (⟨"com/example/grantline/grantline/engine/Actions", "index", "(Ljava/lang/String;)I"⟩ : MethodName) (head1 (Jvm.Cond.code (⟨"com/example/grantline/grantline/engine/Actions", "index", "(Ljava/lang/String;)I"⟩ : MethodName) prog_18_method_6_code 3 (some .int) :: ws) ({ frames := 6, cells := 0, slots := 0, locals := 120 } : Room)) (fun aQ U => aQ = #[(.ref a), (.ref (A 1))] ∧ Z.Warmed39 U.vm ∧ U.heap = h0) (fun _ _ _ _ _ => True) (fun _ U o U' => ∃ vQ LQ, o = .returned vQ ∧ PQ (some (.int (f_ix12_1 ))) h0 vQ U'.heap LQ ∧ FrameEnd U o U' LQ ({ frames := 6, cells := 0, slots := 0, locals := 120 } : Room).cells ({ frames := 6, cells := 0, slots := 0, locals := 120 } : Room).slots) := by
  refine MetFree.of_bodySF (plainFor_of_name pn_14) hisR ?_
  intro p e s m args below meth c s₁ Bd hml0 hP hK
  obtain ⟨rfl, hZ, hh⟩ := hP
  have hx := Bd.exec
  have hby := Bd.bytes
  have hml : c.maxLocals = 3 := hml0
  have hown : s.vm.findClass "com/example/grantline/grantline/engine/Actions" = some m.cls := findClass_of_methodNamed Bd.named
  have hnm := (name_of_methodNamed Bd.named Bd.method).1
  have X0 : Stand p l e ({ frames := 6, cells := 0, slots := 0, locals := 120 } : Room) s m #[(.ref a), (.ref (A 1))] below meth c s₁ [] 0 0 := Stand.of_body Bd
  have e0 : s₁.heap = h0 := by rw [← hh, Bd.state]; rfl
  refine Gl.out ?_
  refine Gl.go ?_ (fun t k => castTop (ef_rm_ix12_1 m a (A 1)) k)
  show Gl _ _ _ _ (s₁.setTop (mkF m 0 _ []))
  refine Gl.go ?_ (fun t k => XS.aloadN X0.here hx rfl (hb hby d14_0) rfl rfl k)
  show Gl _ _ _ _ (s₁.setTop (mkF m 1 #[.val (.ref a), .val (.ref (A 1)), .unset] [(.ref a)]))
  obtain ⟨T52, X52, e52, st52⟩ := getF X0 hx hZ hown (host := "") (Or.inl (hw _ (List.mem_of_getElem? (i := 75) rfl))) Via.refl e0 F_nm (g := (mkF m 1 #[.val (.ref a), .val (.ref (A 1)), .unset] [(.ref a)])) rfl rfl (hb hby d14_1)
  refine Gl.go ?_ st52
  show Gl _ _ _ _ (T52.setTop (mkF m 4 _ [(.ref ls)]))
  refine Gl.go ?_ (fun t k => XS.aloadN X52.here hx rfl (hb hby d14_4) rfl rfl k)
  show Gl _ _ _ _ (T52.setTop (mkF m 5 #[.val (.ref a), .val (.ref (A 1)), .unset] [(.ref (A 1)), (.ref ls)]))
  obtain ⟨cq53, kq53, q53a, q53b, q53c⟩ := isOf hZ e52 E_l
  obtain ⟨_, _, ⟨T53, L53, k53, n53⟩, -, X53, ⟨Lc53, hQ53, l53, y53, z53⟩, st53⟩ := X52.interfaceBack hx (xi := (⟨"java/util/List", "indexOf", "(Ljava/lang/Object;)I"⟩ : MethodName)) (y := (⟨"java/util/ImmutableCollections$List12", "indexOf", "(Ljava/lang/Object;)I"⟩ : MethodName)) hown (mvT hZ (hw _ (List.mem_of_getElem? (i := 103) rfl))) (mvT hZ (hw _ (List.mem_of_getElem? (i := 104) rfl))) (mvT hZ (hw _ (List.mem_of_getElem? (i := 105) rfl))) (mvT hZ (hw _ (List.mem_of_getElem? (i := 146) rfl))) (mvT hZ (hw _ (List.mem_of_getElem? (i := 147) rfl))) (mvT hZ (hw _ (List.mem_of_getElem? (i := 148) rfl))) (mvT hZ (hw _ (List.mem_of_getElem? (i := 149) rfl))) (mvT hZ (hw _ (List.mem_of_getElem? (i := 150) rfl))) (by decide) (backOf (W := 0) (rm_x12_1 l Z a0 hw [] ls A cs em h0 F_e0 F_e1 S_EM hem hS0 hS1 S_CS hcs) hZ (hw _ (List.mem_of_getElem? (i := 151) rfl)) (hw _ (List.mem_of_getElem? (i := 132) rfl)) (by decide) (by decide)) q53a q53b q53c (g := (mkF m 5 #[.val (.ref a), .val (.ref (A 1)), .unset] [(.ref (A 1)), (.ref ls)])) rfl (by rw [hml]; rfl) (Steps.refl _) (argsL := [(.ref (A 1))]) (rest := []) (lenOf pd_4 rfl) rfl (by show 2 * 0 + _ ≤ _; exact Nat.le_of_eq rfl) (hb hby d14_5) (fun _ _ => ⟨rfl, e52, (by decide : 0 + 0 ≤ _), (by decide : 0 + 0 ≤ _)⟩)
  dsimp only [Pt.U, Pt.locs, Pt.cells, Pt.slots] at X53 l53 y53 z53 st53 hQ53
  rw [l53, y53, z53] at X53
  clear l53 y53 z53
  obtain ⟨rfl, rfl, e53⟩ := hQ53
  refine Gl.tr ?_ st53
  show Gl _ _ _ _ (T53.setTop (mkF m 10 #[.val (.ref a), .val (.ref (A 1)), .unset] [(.int (1 : Int32))]))
  refine Gl.go ?_ (fun t k => XS.istoreN X53.here hx rfl (hb hby d14_10) rfl (l' := #[.val (.ref a), .val (.ref (A 1)), .val (.int (1 : Int32))]) rfl k)
  show Gl _ _ _ _ (T53.setTop (mkF m 11 _ []))
  refine Gl.go ?_ (fun t k => XS.iloadN X53.here hx rfl (hb hby d14_11) rfl k)
  show Gl _ _ _ _ (T53.setTop (mkF m 12 _ [(.int (1 : Int32))]))
  refine Gl.go ?_ (fun t k => XS.ifYes X53.here hx rfl (pc0 := 12) (pc' := 36) rfl (hb hby d14_12) rfl ((if0 _ _).trans (flt (by decide : ¬ ((1 : Int32) < (0 : Int32)))).2.1) (by decide) (by decide) k)
  show Gl _ _ _ _ (T53.setTop (mkF m 36 _ []))
  refine Gl.go ?_ (fun t k => XS.iloadN X53.here hx rfl (hb hby d14_36) rfl k)
  show Gl _ _ _ _ (T53.setTop (mkF m 37 _ [(.int (1 : Int32))]))
  obtain ⟨fs, hr, hrun, hended, hW, hsame⟩ := X53.leave (v := some (.int (1 : Int32))) (fun h => by rw [Bd.returns] at h; cases h) (BodyLoose.notSynchronized Bd)
  exact Gl.mk ⟨_, _, retI X53 hx Bd.returns (hb hby d14_37) hr, hrun, hended, _, _, rfl, ⟨congrArg (fun z => some (Value.int z)) (rfl).symm, rfl, e53⟩, ⟨_, rfl⟩, hW, hsame.mono (by decide) (by decide)⟩
def f_ixN_0  : Int32 := (0 : Int32)
theorem ef_rm_ixN_0 (m : MethodId) (x0 : Addr) (x1 : Addr) : entryFrame m #[(.ref x0), (.ref x1)] 3 = mkF m 0 #[.val (.ref x0), .val (.ref x1), .unset] [] := by first | (simp [entryFrame, mkF, argsToLocals, Value.category]; done) | rfl
set_option maxRecDepth 65536 in
set_option maxHeartbeats 40000000 in
theorem rm_ixN_0 (l : Launch) (Z : State) (a0 : Array Value) (hw : ∀ d ∈ tables_1, d.before a0 Z = true) (ws : List Jvm.Cond) (a : Addr) (A : Nat → Addr) (cs : Int32) (ls ea : Addr) (N : Int32) (h0 : Heap) (F_nm : Fld Z h0 a "com/example/grantline/grantline/engine/Actions" "names" "Ljava/util/List;" (.ref ls)) (E_l : Exa Z h0 ls "java/util/ImmutableCollections$ListN") (F_el : Fld Z h0 ls "java/util/ImmutableCollections$ListN" "elements" "[Ljava/lang/Object;" (.ref ea)) (F_an : Fld Z h0 ls "java/util/ImmutableCollections$ListN" "allowNulls" "Z" (.int 0)) (hRA : RA Z h0 ea (.object "java/lang/Object") N A) (hN : (0 : Int) < N.toInt) (hS0 : StrIs Z h0 (A 0) (own_ch 0)) (S_CS : Sta Z h0 "java/lang/String" "COMPACT_STRINGS" "Z" (.int cs)) (hcs : ¬ cs = 0) :
    MetFree l (⟨"com/example/grantline/grantline/engine/Actions", "index", "(Ljava/lang/String;)I"⟩ : MethodName) (head1 (Jvm.Cond.code (⟨"com/example/grantline/grantline/engine/Actions", "index", "(Ljava/lang/String;)I"⟩ : MethodName) prog_18_method_6_code 3 (some .int) :: ws) ({ frames := 6, cells := 0, slots := 0, locals := 120 } : Room)) (fun aQ U => aQ = #[(.ref a), (.ref (A 0))] ∧ Z.Warmed39 U.vm ∧ U.heap = h0) (fun _ _ _ _ _ => True) (fun _ U o U' => ∃ vQ LQ, o = .returned vQ ∧ PQ (some (.int (f_ixN_0 ))) h0 vQ U'.heap LQ ∧ FrameEnd U o U' LQ ({ frames := 6, cells := 0, slots := 0, locals := 120 } : Room).cells ({ frames := 6, cells := 0, slots := 0, locals := 120 } : Room).slots) := by
  refine MetFree.of_bodySF (plainFor_of_name pn_14) hisR ?_
  intro p e s m args below meth c s₁ Bd hml0 hP hK
  obtain ⟨rfl, hZ, hh⟩ := hP
  have hx := Bd.exec
  have hby := Bd.bytes
  have hml : c.maxLocals = 3 := hml0
  have hown : s.vm.findClass "com/example/grantline/grantline/engine/Actions" = some m.cls := findClass_of_methodNamed Bd.named
  have hnm := (name_of_methodNamed Bd.named Bd.method).1
  have X0 : Stand p l e ({ frames := 6, cells := 0, slots := 0, locals := 120 } : Room) s m #[(.ref a), (.ref (A 0))] below meth c s₁ [] 0 0 := Stand.of_body Bd
  have e0 : s₁.heap = h0 := by rw [← hh, Bd.state]; rfl
  refine Gl.out ?_
  refine Gl.go ?_ (fun t k => castTop (ef_rm_ixN_0 m a (A 0)) k)
  show Gl _ _ _ _ (s₁.setTop (mkF m 0 _ []))
  refine Gl.go ?_ (fun t k => XS.aloadN X0.here hx rfl (hb hby d14_0) rfl rfl k)
  show Gl _ _ _ _ (s₁.setTop (mkF m 1 #[.val (.ref a), .val (.ref (A 0)), .unset] [(.ref a)]))
  obtain ⟨T54, X54, e54, st54⟩ := getF X0 hx hZ hown (host := "") (Or.inl (hw _ (List.mem_of_getElem? (i := 75) rfl))) Via.refl e0 F_nm (g := (mkF m 1 #[.val (.ref a), .val (.ref (A 0)), .unset] [(.ref a)])) rfl rfl (hb hby d14_1)
  refine Gl.go ?_ st54
  show Gl _ _ _ _ (T54.setTop (mkF m 4 _ [(.ref ls)]))
  refine Gl.go ?_ (fun t k => XS.aloadN X54.here hx rfl (hb hby d14_4) rfl rfl k)
  show Gl _ _ _ _ (T54.setTop (mkF m 5 #[.val (.ref a), .val (.ref (A 0)), .unset] [(.ref (A 0)), (.ref ls)]))
  obtain ⟨cq55, kq55, q55a, q55b, q55c⟩ := isOf hZ e54 E_l
  obtain ⟨_, _, ⟨T55, L55, k55, n55⟩, -, X55, ⟨Lc55, hQ55, l55, y55, z55⟩, st55⟩ := X54.interfaceBack hx (xi := (⟨"java/util/List", "indexOf", "(Ljava/lang/Object;)I"⟩ : MethodName)) (y := (⟨"java/util/ImmutableCollections$ListN", "indexOf", "(Ljava/lang/Object;)I"⟩ : MethodName)) hown (mvT hZ (hw _ (List.mem_of_getElem? (i := 103) rfl))) (mvT hZ (hw _ (List.mem_of_getElem? (i := 104) rfl))) (mvT hZ (hw _ (List.mem_of_getElem? (i := 105) rfl))) (mvT hZ (hw _ (List.mem_of_getElem? (i := 106) rfl))) (mvT hZ (hw _ (List.mem_of_getElem? (i := 107) rfl))) (mvT hZ (hw _ (List.mem_of_getElem? (i := 108) rfl))) (mvT hZ (hw _ (List.mem_of_getElem? (i := 109) rfl))) (mvT hZ (hw _ (List.mem_of_getElem? (i := 110) rfl))) (by decide) (backOf (W := 0) (rm_xN_0 l Z a0 hw [] ls A cs ea N h0 F_el F_an hRA hN hS0 S_CS hcs) hZ (hw _ (List.mem_of_getElem? (i := 111) rfl)) (hw _ (List.mem_of_getElem? (i := 40) rfl)) (by decide) (by decide)) q55a q55b q55c (g := (mkF m 5 #[.val (.ref a), .val (.ref (A 0)), .unset] [(.ref (A 0)), (.ref ls)])) rfl (by rw [hml]; rfl) (Steps.refl _) (argsL := [(.ref (A 0))]) (rest := []) (lenOf pd_4 rfl) rfl (by show 2 * 0 + _ ≤ _; exact Nat.le_of_eq rfl) (hb hby d14_5) (fun _ _ => ⟨rfl, e54, (by decide : 0 + 0 ≤ _), (by decide : 0 + 0 ≤ _)⟩)
  dsimp only [Pt.U, Pt.locs, Pt.cells, Pt.slots] at X55 l55 y55 z55 st55 hQ55
  rw [l55, y55, z55] at X55
  clear l55 y55 z55
  obtain ⟨rfl, rfl, e55⟩ := hQ55
  refine Gl.tr ?_ st55
  show Gl _ _ _ _ (T55.setTop (mkF m 10 #[.val (.ref a), .val (.ref (A 0)), .unset] [(.int (0 : Int32))]))
  refine Gl.go ?_ (fun t k => XS.istoreN X55.here hx rfl (hb hby d14_10) rfl (l' := #[.val (.ref a), .val (.ref (A 0)), .val (.int (0 : Int32))]) rfl k)
  show Gl _ _ _ _ (T55.setTop (mkF m 11 _ []))
  refine Gl.go ?_ (fun t k => XS.iloadN X55.here hx rfl (hb hby d14_11) rfl k)
  show Gl _ _ _ _ (T55.setTop (mkF m 12 _ [(.int (0 : Int32))]))
  refine Gl.go ?_ (fun t k => XS.ifYes X55.here hx rfl (pc0 := 12) (pc' := 36) rfl (hb hby d14_12) rfl ((if0 _ _).trans (flt (by decide : ¬ ((0 : Int32) < (0 : Int32)))).2.1) (by decide) (by decide) k)
  show Gl _ _ _ _ (T55.setTop (mkF m 36 _ []))
  refine Gl.go ?_ (fun t k => XS.iloadN X55.here hx rfl (hb hby d14_36) rfl k)
  show Gl _ _ _ _ (T55.setTop (mkF m 37 _ [(.int (0 : Int32))]))
  obtain ⟨fs, hr, hrun, hended, hW, hsame⟩ := X55.leave (v := some (.int (0 : Int32))) (fun h => by rw [Bd.returns] at h; cases h) (BodyLoose.notSynchronized Bd)
  exact Gl.mk ⟨_, _, retI X55 hx Bd.returns (hb hby d14_37) hr, hrun, hended, _, _, rfl, ⟨congrArg (fun z => some (Value.int z)) (rfl).symm, rfl, e55⟩, ⟨_, rfl⟩, hW, hsame.mono (by decide) (by decide)⟩
def f_ixN_1  : Int32 := (1 : Int32)
theorem ef_rm_ixN_1 (m : MethodId) (x0 : Addr) (x1 : Addr) : entryFrame m #[(.ref x0), (.ref x1)] 3 = mkF m 0 #[.val (.ref x0), .val (.ref x1), .unset] [] := by first | (simp [entryFrame, mkF, argsToLocals, Value.category]; done) | rfl
set_option maxRecDepth 65536 in
set_option maxHeartbeats 40000000 in
theorem rm_ixN_1 (l : Launch) (Z : State) (a0 : Array Value) (hw : ∀ d ∈ tables_1, d.before a0 Z = true) (ws : List Jvm.Cond) (a : Addr) (A : Nat → Addr) (cs : Int32) (ls ea : Addr) (N : Int32) (h0 : Heap) (F_nm : Fld Z h0 a "com/example/grantline/grantline/engine/Actions" "names" "Ljava/util/List;" (.ref ls)) (E_l : Exa Z h0 ls "java/util/ImmutableCollections$ListN") (F_el : Fld Z h0 ls "java/util/ImmutableCollections$ListN" "elements" "[Ljava/lang/Object;" (.ref ea)) (F_an : Fld Z h0 ls "java/util/ImmutableCollections$ListN" "allowNulls" "Z" (.int 0)) (hRA : RA Z h0 ea (.object "java/lang/Object") N A) (hN : (1 : Int) < N.toInt) (hS0 : StrIs Z h0 (A 0) (own_ch 0)) (hS1 : StrIs Z h0 (A 1) (own_ch 1)) (S_CS : Sta Z h0 "java/lang/String" "COMPACT_STRINGS" "Z" (.int cs)) (hcs : ¬ cs = 0) :
    MetFree l (⟨"com/example/grantline/grantline/engine/Actions", "index", "(Ljava/lang/String;)I"⟩ : MethodName) (head1 (Jvm.Cond.code (⟨"com/example/grantline/grantline/engine/Actions", "index", "(Ljava/lang/String;)I"⟩ : MethodName) prog_18_method_6_code 3 (some .int) :: ws) ({ frames := 6, cells := 0, slots := 0, locals := 120 } : Room)) (fun aQ U => aQ = #[(.ref a), (.ref (A 1))] ∧ Z.Warmed39 U.vm ∧ U.heap = h0) (fun _ _ _ _ _ => True) (fun _ U o U' => ∃ vQ LQ, o = .returned vQ ∧ PQ (some (.int (f_ixN_1 ))) h0 vQ U'.heap LQ ∧ FrameEnd U o U' LQ ({ frames := 6, cells := 0, slots := 0, locals := 120 } : Room).cells ({ frames := 6, cells := 0, slots := 0, locals := 120 } : Room).slots) := by
  refine MetFree.of_bodySF (plainFor_of_name pn_14) hisR ?_
  intro p e s m args below meth c s₁ Bd hml0 hP hK
  obtain ⟨rfl, hZ, hh⟩ := hP
  have hx := Bd.exec
  have hby := Bd.bytes
  have hml : c.maxLocals = 3 := hml0
  have hown : s.vm.findClass "com/example/grantline/grantline/engine/Actions" = some m.cls := findClass_of_methodNamed Bd.named
  have hnm := (name_of_methodNamed Bd.named Bd.method).1
  have X0 : Stand p l e ({ frames := 6, cells := 0, slots := 0, locals := 120 } : Room) s m #[(.ref a), (.ref (A 1))] below meth c s₁ [] 0 0 := Stand.of_body Bd
  have e0 : s₁.heap = h0 := by rw [← hh, Bd.state]; rfl
  refine Gl.out ?_
  refine Gl.go ?_ (fun t k => castTop (ef_rm_ixN_1 m a (A 1)) k)
  show Gl _ _ _ _ (s₁.setTop (mkF m 0 _ []))
  refine Gl.go ?_ (fun t k => XS.aloadN X0.here hx rfl (hb hby d14_0) rfl rfl k)
  show Gl _ _ _ _ (s₁.setTop (mkF m 1 #[.val (.ref a), .val (.ref (A 1)), .unset] [(.ref a)]))
  obtain ⟨T56, X56, e56, st56⟩ := getF X0 hx hZ hown (host := "") (Or.inl (hw _ (List.mem_of_getElem? (i := 75) rfl))) Via.refl e0 F_nm (g := (mkF m 1 #[.val (.ref a), .val (.ref (A 1)), .unset] [(.ref a)])) rfl rfl (hb hby d14_1)
  refine Gl.go ?_ st56
  show Gl _ _ _ _ (T56.setTop (mkF m 4 _ [(.ref ls)]))
  refine Gl.go ?_ (fun t k => XS.aloadN X56.here hx rfl (hb hby d14_4) rfl rfl k)
  show Gl _ _ _ _ (T56.setTop (mkF m 5 #[.val (.ref a), .val (.ref (A 1)), .unset] [(.ref (A 1)), (.ref ls)]))
  obtain ⟨cq57, kq57, q57a, q57b, q57c⟩ := isOf hZ e56 E_l
  obtain ⟨_, _, ⟨T57, L57, k57, n57⟩, -, X57, ⟨Lc57, hQ57, l57, y57, z57⟩, st57⟩ := X56.interfaceBack hx (xi := (⟨"java/util/List", "indexOf", "(Ljava/lang/Object;)I"⟩ : MethodName)) (y := (⟨"java/util/ImmutableCollections$ListN", "indexOf", "(Ljava/lang/Object;)I"⟩ : MethodName)) hown (mvT hZ (hw _ (List.mem_of_getElem? (i := 103) rfl))) (mvT hZ (hw _ (List.mem_of_getElem? (i := 104) rfl))) (mvT hZ (hw _ (List.mem_of_getElem? (i := 105) rfl))) (mvT hZ (hw _ (List.mem_of_getElem? (i := 106) rfl))) (mvT hZ (hw _ (List.mem_of_getElem? (i := 107) rfl))) (mvT hZ (hw _ (List.mem_of_getElem? (i := 108) rfl))) (mvT hZ (hw _ (List.mem_of_getElem? (i := 109) rfl))) (mvT hZ (hw _ (List.mem_of_getElem? (i := 110) rfl))) (by decide) (backOf (W := 0) (rm_xN_1 l Z a0 hw [] ls A cs ea N h0 F_el F_an hRA hN hS0 hS1 S_CS hcs) hZ (hw _ (List.mem_of_getElem? (i := 111) rfl)) (hw _ (List.mem_of_getElem? (i := 40) rfl)) (by decide) (by decide)) q57a q57b q57c (g := (mkF m 5 #[.val (.ref a), .val (.ref (A 1)), .unset] [(.ref (A 1)), (.ref ls)])) rfl (by rw [hml]; rfl) (Steps.refl _) (argsL := [(.ref (A 1))]) (rest := []) (lenOf pd_4 rfl) rfl (by show 2 * 0 + _ ≤ _; exact Nat.le_of_eq rfl) (hb hby d14_5) (fun _ _ => ⟨rfl, e56, (by decide : 0 + 0 ≤ _), (by decide : 0 + 0 ≤ _)⟩)
  dsimp only [Pt.U, Pt.locs, Pt.cells, Pt.slots] at X57 l57 y57 z57 st57 hQ57
  rw [l57, y57, z57] at X57
  clear l57 y57 z57
  obtain ⟨rfl, rfl, e57⟩ := hQ57
  refine Gl.tr ?_ st57
  show Gl _ _ _ _ (T57.setTop (mkF m 10 #[.val (.ref a), .val (.ref (A 1)), .unset] [(.int (1 : Int32))]))
  refine Gl.go ?_ (fun t k => XS.istoreN X57.here hx rfl (hb hby d14_10) rfl (l' := #[.val (.ref a), .val (.ref (A 1)), .val (.int (1 : Int32))]) rfl k)
  show Gl _ _ _ _ (T57.setTop (mkF m 11 _ []))
  refine Gl.go ?_ (fun t k => XS.iloadN X57.here hx rfl (hb hby d14_11) rfl k)
  show Gl _ _ _ _ (T57.setTop (mkF m 12 _ [(.int (1 : Int32))]))
  refine Gl.go ?_ (fun t k => XS.ifYes X57.here hx rfl (pc0 := 12) (pc' := 36) rfl (hb hby d14_12) rfl ((if0 _ _).trans (flt (by decide : ¬ ((1 : Int32) < (0 : Int32)))).2.1) (by decide) (by decide) k)
  show Gl _ _ _ _ (T57.setTop (mkF m 36 _ []))
  refine Gl.go ?_ (fun t k => XS.iloadN X57.here hx rfl (hb hby d14_36) rfl k)
  show Gl _ _ _ _ (T57.setTop (mkF m 37 _ [(.int (1 : Int32))]))
  obtain ⟨fs, hr, hrun, hended, hW, hsame⟩ := X57.leave (v := some (.int (1 : Int32))) (fun h => by rw [Bd.returns] at h; cases h) (BodyLoose.notSynchronized Bd)
  exact Gl.mk ⟨_, _, retI X57 hx Bd.returns (hb hby d14_37) hr, hrun, hended, _, _, rfl, ⟨congrArg (fun z => some (Value.int z)) (rfl).symm, rfl, e57⟩, ⟨_, rfl⟩, hW, hsame.mono (by decide) (by decide)⟩
def f_ixN_2  : Int32 := (2 : Int32)
theorem ef_rm_ixN_2 (m : MethodId) (x0 : Addr) (x1 : Addr) : entryFrame m #[(.ref x0), (.ref x1)] 3 = mkF m 0 #[.val (.ref x0), .val (.ref x1), .unset] [] := by first | (simp [entryFrame, mkF, argsToLocals, Value.category]; done) | rfl
set_option maxRecDepth 65536 in
set_option maxHeartbeats 40000000 in
theorem rm_ixN_2 (l : Launch) (Z : State) (a0 : Array Value) (hw : ∀ d ∈ tables_1, d.before a0 Z = true) (ws : List Jvm.Cond) (a : Addr) (A : Nat → Addr) (cs : Int32) (ls ea : Addr) (N : Int32) (h0 : Heap) (F_nm : Fld Z h0 a "com/example/grantline/grantline/engine/Actions" "names" "Ljava/util/List;" (.ref ls)) (E_l : Exa Z h0 ls "java/util/ImmutableCollections$ListN") (F_el : Fld Z h0 ls "java/util/ImmutableCollections$ListN" "elements" "[Ljava/lang/Object;" (.ref ea)) (F_an : Fld Z h0 ls "java/util/ImmutableCollections$ListN" "allowNulls" "Z" (.int 0)) (hRA : RA Z h0 ea (.object "java/lang/Object") N A) (hN : (2 : Int) < N.toInt) (hS0 : StrIs Z h0 (A 0) (own_ch 0)) (hS1 : StrIs Z h0 (A 1) (own_ch 1)) (hS2 : StrIs Z h0 (A 2) (own_ch 2)) (S_CS : Sta Z h0 "java/lang/String" "COMPACT_STRINGS" "Z" (.int cs)) (hcs : ¬ cs = 0) :
    MetFree l (⟨"com/example/grantline/grantline/engine/Actions", "index", "(Ljava/lang/String;)I"⟩ : MethodName) (head1 (Jvm.Cond.code (⟨"com/example/grantline/grantline/engine/Actions", "index", "(Ljava/lang/String;)I"⟩ : MethodName) prog_18_method_6_code 3 (some .int) :: ws) ({ frames := 6, cells := 0, slots := 0, locals := 120 } : Room)) (fun aQ U => aQ = #[(.ref a), (.ref (A 2))] ∧ Z.Warmed39 U.vm ∧ U.heap = h0) (fun _ _ _ _ _ => True) (fun _ U o U' => ∃ vQ LQ, o = .returned vQ ∧ PQ (some (.int (f_ixN_2 ))) h0 vQ U'.heap LQ ∧ FrameEnd U o U' LQ ({ frames := 6, cells := 0, slots := 0, locals := 120 } : Room).cells ({ frames := 6, cells := 0, slots := 0, locals := 120 } : Room).slots) := by
  refine MetFree.of_bodySF (plainFor_of_name pn_14) hisR ?_
  intro p e s m args below meth c s₁ Bd hml0 hP hK
  obtain ⟨rfl, hZ, hh⟩ := hP
  have hx := Bd.exec
  have hby := Bd.bytes
  have hml : c.maxLocals = 3 := hml0
  have hown : s.vm.findClass "com/example/grantline/grantline/engine/Actions" = some m.cls := findClass_of_methodNamed Bd.named
  have hnm := (name_of_methodNamed Bd.named Bd.method).1
  have X0 : Stand p l e ({ frames := 6, cells := 0, slots := 0, locals := 120 } : Room) s m #[(.ref a), (.ref (A 2))] below meth c s₁ [] 0 0 := Stand.of_body Bd
  have e0 : s₁.heap = h0 := by rw [← hh, Bd.state]; rfl
  refine Gl.out ?_
  refine Gl.go ?_ (fun t k => castTop (ef_rm_ixN_2 m a (A 2)) k)
  show Gl _ _ _ _ (s₁.setTop (mkF m 0 _ []))
  refine Gl.go ?_ (fun t k => XS.aloadN X0.here hx rfl (hb hby d14_0) rfl rfl k)
  show Gl _ _ _ _ (s₁.setTop (mkF m 1 #[.val (.ref a), .val (.ref (A 2)), .unset] [(.ref a)]))
  obtain ⟨T58, X58, e58, st58⟩ := getF X0 hx hZ hown (host := "") (Or.inl (hw _ (List.mem_of_getElem? (i := 75) rfl))) Via.refl e0 F_nm (g := (mkF m 1 #[.val (.ref a), .val (.ref (A 2)), .unset] [(.ref a)])) rfl rfl (hb hby d14_1)
  refine Gl.go ?_ st58
  show Gl _ _ _ _ (T58.setTop (mkF m 4 _ [(.ref ls)]))
  refine Gl.go ?_ (fun t k => XS.aloadN X58.here hx rfl (hb hby d14_4) rfl rfl k)
  show Gl _ _ _ _ (T58.setTop (mkF m 5 #[.val (.ref a), .val (.ref (A 2)), .unset] [(.ref (A 2)), (.ref ls)]))
  obtain ⟨cq59, kq59, q59a, q59b, q59c⟩ := isOf hZ e58 E_l
  obtain ⟨_, _, ⟨T59, L59, k59, n59⟩, -, X59, ⟨Lc59, hQ59, l59, y59, z59⟩, st59⟩ := X58.interfaceBack hx (xi := (⟨"java/util/List", "indexOf", "(Ljava/lang/Object;)I"⟩ : MethodName)) (y := (⟨"java/util/ImmutableCollections$ListN", "indexOf", "(Ljava/lang/Object;)I"⟩ : MethodName)) hown (mvT hZ (hw _ (List.mem_of_getElem? (i := 103) rfl))) (mvT hZ (hw _ (List.mem_of_getElem? (i := 104) rfl))) (mvT hZ (hw _ (List.mem_of_getElem? (i := 105) rfl))) (mvT hZ (hw _ (List.mem_of_getElem? (i := 106) rfl))) (mvT hZ (hw _ (List.mem_of_getElem? (i := 107) rfl))) (mvT hZ (hw _ (List.mem_of_getElem? (i := 108) rfl))) (mvT hZ (hw _ (List.mem_of_getElem? (i := 109) rfl))) (mvT hZ (hw _ (List.mem_of_getElem? (i := 110) rfl))) (by decide) (backOf (W := 0) (rm_xN_2 l Z a0 hw [] ls A cs ea N h0 F_el F_an hRA hN hS0 hS1 hS2 S_CS hcs) hZ (hw _ (List.mem_of_getElem? (i := 111) rfl)) (hw _ (List.mem_of_getElem? (i := 40) rfl)) (by decide) (by decide)) q59a q59b q59c (g := (mkF m 5 #[.val (.ref a), .val (.ref (A 2)), .unset] [(.ref (A 2)), (.ref ls)])) rfl (by rw [hml]; rfl) (Steps.refl _) (argsL := [(.ref (A 2))]) (rest := []) (lenOf pd_4 rfl) rfl (by show 2 * 0 + _ ≤ _; exact Nat.le_of_eq rfl) (hb hby d14_5) (fun _ _ => ⟨rfl, e58, (by decide : 0 + 0 ≤ _), (by decide : 0 + 0 ≤ _)⟩)
  dsimp only [Pt.U, Pt.locs, Pt.cells, Pt.slots] at X59 l59 y59 z59 st59 hQ59
  rw [l59, y59, z59] at X59
  clear l59 y59 z59
  obtain ⟨rfl, rfl, e59⟩ := hQ59
  refine Gl.tr ?_ st59
  show Gl _ _ _ _ (T59.setTop (mkF m 10 #[.val (.ref a), .val (.ref (A 2)), .unset] [(.int (2 : Int32))]))
  refine Gl.go ?_ (fun t k => XS.istoreN X59.here hx rfl (hb hby d14_10) rfl (l' := #[.val (.ref a), .val (.ref (A 2)), .val (.int (2 : Int32))]) rfl k)
  show Gl _ _ _ _ (T59.setTop (mkF m 11 _ []))
  refine Gl.go ?_ (fun t k => XS.iloadN X59.here hx rfl (hb hby d14_11) rfl k)
  show Gl _ _ _ _ (T59.setTop (mkF m 12 _ [(.int (2 : Int32))]))
  refine Gl.go ?_ (fun t k => XS.ifYes X59.here hx rfl (pc0 := 12) (pc' := 36) rfl (hb hby d14_12) rfl ((if0 _ _).trans (flt (by decide : ¬ ((2 : Int32) < (0 : Int32)))).2.1) (by decide) (by decide) k)
  show Gl _ _ _ _ (T59.setTop (mkF m 36 _ []))
  refine Gl.go ?_ (fun t k => XS.iloadN X59.here hx rfl (hb hby d14_36) rfl k)
  show Gl _ _ _ _ (T59.setTop (mkF m 37 _ [(.int (2 : Int32))]))
  obtain ⟨fs, hr, hrun, hended, hW, hsame⟩ := X59.leave (v := some (.int (2 : Int32))) (fun h => by rw [Bd.returns] at h; cases h) (BodyLoose.notSynchronized Bd)
  exact Gl.mk ⟨_, _, retI X59 hx Bd.returns (hb hby d14_37) hr, hrun, hended, _, _, rfl, ⟨congrArg (fun z => some (Value.int z)) (rfl).symm, rfl, e59⟩, ⟨_, rfl⟩, hW, hsame.mono (by decide) (by decide)⟩
def f_ixN_3  : Int32 := (3 : Int32)
theorem ef_rm_ixN_3 (m : MethodId) (x0 : Addr) (x1 : Addr) : entryFrame m #[(.ref x0), (.ref x1)] 3 = mkF m 0 #[.val (.ref x0), .val (.ref x1), .unset] [] := by first | (simp [entryFrame, mkF, argsToLocals, Value.category]; done) | rfl
set_option maxRecDepth 65536 in
set_option maxHeartbeats 40000000 in
theorem rm_ixN_3 (l : Launch) (Z : State) (a0 : Array Value) (hw : ∀ d ∈ tables_1, d.before a0 Z = true) (ws : List Jvm.Cond) (a : Addr) (A : Nat → Addr) (cs : Int32) (ls ea : Addr) (N : Int32) (h0 : Heap) (F_nm : Fld Z h0 a "com/example/grantline/grantline/engine/Actions" "names" "Ljava/util/List;" (.ref ls)) (E_l : Exa Z h0 ls "java/util/ImmutableCollections$ListN") (F_el : Fld Z h0 ls "java/util/ImmutableCollections$ListN" "elements" "[Ljava/lang/Object;" (.ref ea)) (F_an : Fld Z h0 ls "java/util/ImmutableCollections$ListN" "allowNulls" "Z" (.int 0)) (hRA : RA Z h0 ea (.object "java/lang/Object") N A) (hN : (3 : Int) < N.toInt) (hS0 : StrIs Z h0 (A 0) (own_ch 0)) (hS1 : StrIs Z h0 (A 1) (own_ch 1)) (hS2 : StrIs Z h0 (A 2) (own_ch 2)) (hS3 : StrIs Z h0 (A 3) (own_ch 3)) (S_CS : Sta Z h0 "java/lang/String" "COMPACT_STRINGS" "Z" (.int cs)) (hcs : ¬ cs = 0) :
    MetFree l (⟨"com/example/grantline/grantline/engine/Actions", "index", "(Ljava/lang/String;)I"⟩ : MethodName) (head1 (Jvm.Cond.code (⟨"com/example/grantline/grantline/engine/Actions", "index", "(Ljava/lang/String;)I"⟩ : MethodName) prog_18_method_6_code 3 (some .int) :: ws) ({ frames := 6, cells := 0, slots := 0, locals := 120 } : Room)) (fun aQ U => aQ = #[(.ref a), (.ref (A 3))] ∧ Z.Warmed39 U.vm ∧ U.heap = h0) (fun _ _ _ _ _ => True) (fun _ U o U' => ∃ vQ LQ, o = .returned vQ ∧ PQ (some (.int (f_ixN_3 ))) h0 vQ U'.heap LQ ∧ FrameEnd U o U' LQ ({ frames := 6, cells := 0, slots := 0, locals := 120 } : Room).cells ({ frames := 6, cells := 0, slots := 0, locals := 120 } : Room).slots) := by
  refine MetFree.of_bodySF (plainFor_of_name pn_14) hisR ?_
  intro p e s m args below meth c s₁ Bd hml0 hP hK
  obtain ⟨rfl, hZ, hh⟩ := hP
  have hx := Bd.exec
  have hby := Bd.bytes
  have hml : c.maxLocals = 3 := hml0
  have hown : s.vm.findClass "com/example/grantline/grantline/engine/Actions" = some m.cls := findClass_of_methodNamed Bd.named
  have hnm := (name_of_methodNamed Bd.named Bd.method).1
  have X0 : Stand p l e ({ frames := 6, cells := 0, slots := 0, locals := 120 } : Room) s m #[(.ref a), (.ref (A 3))] below meth c s₁ [] 0 0 := Stand.of_body Bd
  have e0 : s₁.heap = h0 := by rw [← hh, Bd.state]; rfl
  refine Gl.out ?_
  refine Gl.go ?_ (fun t k => castTop (ef_rm_ixN_3 m a (A 3)) k)
  show Gl _ _ _ _ (s₁.setTop (mkF m 0 _ []))
  refine Gl.go ?_ (fun t k => XS.aloadN X0.here hx rfl (hb hby d14_0) rfl rfl k)
  show Gl _ _ _ _ (s₁.setTop (mkF m 1 #[.val (.ref a), .val (.ref (A 3)), .unset] [(.ref a)]))
  obtain ⟨T60, X60, e60, st60⟩ := getF X0 hx hZ hown (host := "") (Or.inl (hw _ (List.mem_of_getElem? (i := 75) rfl))) Via.refl e0 F_nm (g := (mkF m 1 #[.val (.ref a), .val (.ref (A 3)), .unset] [(.ref a)])) rfl rfl (hb hby d14_1)
  refine Gl.go ?_ st60
  show Gl _ _ _ _ (T60.setTop (mkF m 4 _ [(.ref ls)]))
  refine Gl.go ?_ (fun t k => XS.aloadN X60.here hx rfl (hb hby d14_4) rfl rfl k)
  show Gl _ _ _ _ (T60.setTop (mkF m 5 #[.val (.ref a), .val (.ref (A 3)), .unset] [(.ref (A 3)), (.ref ls)]))
  obtain ⟨cq61, kq61, q61a, q61b, q61c⟩ := isOf hZ e60 E_l
  obtain ⟨_, _, ⟨T61, L61, k61, n61⟩, -, X61, ⟨Lc61, hQ61, l61, y61, z61⟩, st61⟩ := X60.interfaceBack hx (xi := (⟨"java/util/List", "indexOf", "(Ljava/lang/Object;)I"⟩ : MethodName)) (y := (⟨"java/util/ImmutableCollections$ListN", "indexOf", "(Ljava/lang/Object;)I"⟩ : MethodName)) hown (mvT hZ (hw _ (List.mem_of_getElem? (i := 103) rfl))) (mvT hZ (hw _ (List.mem_of_getElem? (i := 104) rfl))) (mvT hZ (hw _ (List.mem_of_getElem? (i := 105) rfl))) (mvT hZ (hw _ (List.mem_of_getElem? (i := 106) rfl))) (mvT hZ (hw _ (List.mem_of_getElem? (i := 107) rfl))) (mvT hZ (hw _ (List.mem_of_getElem? (i := 108) rfl))) (mvT hZ (hw _ (List.mem_of_getElem? (i := 109) rfl))) (mvT hZ (hw _ (List.mem_of_getElem? (i := 110) rfl))) (by decide) (backOf (W := 0) (rm_xN_3 l Z a0 hw [] ls A cs ea N h0 F_el F_an hRA hN hS0 hS1 hS2 hS3 S_CS hcs) hZ (hw _ (List.mem_of_getElem? (i := 111) rfl)) (hw _ (List.mem_of_getElem? (i := 40) rfl)) (by decide) (by decide)) q61a q61b q61c (g := (mkF m 5 #[.val (.ref a), .val (.ref (A 3)), .unset] [(.ref (A 3)), (.ref ls)])) rfl (by rw [hml]; rfl) (Steps.refl _) (argsL := [(.ref (A 3))]) (rest := []) (lenOf pd_4 rfl) rfl (by show 2 * 0 + _ ≤ _; exact Nat.le_of_eq rfl) (hb hby d14_5) (fun _ _ => ⟨rfl, e60, (by decide : 0 + 0 ≤ _), (by decide : 0 + 0 ≤ _)⟩)
  dsimp only [Pt.U, Pt.locs, Pt.cells, Pt.slots] at X61 l61 y61 z61 st61 hQ61
  rw [l61, y61, z61] at X61
  clear l61 y61 z61
  obtain ⟨rfl, rfl, e61⟩ := hQ61
  refine Gl.tr ?_ st61
  show Gl _ _ _ _ (T61.setTop (mkF m 10 #[.val (.ref a), .val (.ref (A 3)), .unset] [(.int (3 : Int32))]))
  refine Gl.go ?_ (fun t k => XS.istoreN X61.here hx rfl (hb hby d14_10) rfl (l' := #[.val (.ref a), .val (.ref (A 3)), .val (.int (3 : Int32))]) rfl k)
  show Gl _ _ _ _ (T61.setTop (mkF m 11 _ []))
  refine Gl.go ?_ (fun t k => XS.iloadN X61.here hx rfl (hb hby d14_11) rfl k)
  show Gl _ _ _ _ (T61.setTop (mkF m 12 _ [(.int (3 : Int32))]))
  refine Gl.go ?_ (fun t k => XS.ifYes X61.here hx rfl (pc0 := 12) (pc' := 36) rfl (hb hby d14_12) rfl ((if0 _ _).trans (flt (by decide : ¬ ((3 : Int32) < (0 : Int32)))).2.1) (by decide) (by decide) k)
  show Gl _ _ _ _ (T61.setTop (mkF m 36 _ []))
  refine Gl.go ?_ (fun t k => XS.iloadN X61.here hx rfl (hb hby d14_36) rfl k)
  show Gl _ _ _ _ (T61.setTop (mkF m 37 _ [(.int (3 : Int32))]))
  obtain ⟨fs, hr, hrun, hended, hW, hsame⟩ := X61.leave (v := some (.int (3 : Int32))) (fun h => by rw [Bd.returns] at h; cases h) (BodyLoose.notSynchronized Bd)
  exact Gl.mk ⟨_, _, retI X61 hx Bd.returns (hb hby d14_37) hr, hrun, hended, _, _, rfl, ⟨congrArg (fun z => some (Value.int z)) (rfl).symm, rfl, e61⟩, ⟨_, rfl⟩, hW, hsame.mono (by decide) (by decide)⟩
def f_ixN_4  : Int32 := (4 : Int32)
theorem ef_rm_ixN_4 (m : MethodId) (x0 : Addr) (x1 : Addr) : entryFrame m #[(.ref x0), (.ref x1)] 3 = mkF m 0 #[.val (.ref x0), .val (.ref x1), .unset] [] := by first | (simp [entryFrame, mkF, argsToLocals, Value.category]; done) | rfl
set_option maxRecDepth 65536 in
set_option maxHeartbeats 40000000 in
theorem rm_ixN_4 (l : Launch) (Z : State) (a0 : Array Value) (hw : ∀ d ∈ tables_1, d.before a0 Z = true) (ws : List Jvm.Cond) (a : Addr) (A : Nat → Addr) (cs : Int32) (ls ea : Addr) (N : Int32) (h0 : Heap) (F_nm : Fld Z h0 a "com/example/grantline/grantline/engine/Actions" "names" "Ljava/util/List;" (.ref ls)) (E_l : Exa Z h0 ls "java/util/ImmutableCollections$ListN") (F_el : Fld Z h0 ls "java/util/ImmutableCollections$ListN" "elements" "[Ljava/lang/Object;" (.ref ea)) (F_an : Fld Z h0 ls "java/util/ImmutableCollections$ListN" "allowNulls" "Z" (.int 0)) (hRA : RA Z h0 ea (.object "java/lang/Object") N A) (hN : (4 : Int) < N.toInt) (hS0 : StrIs Z h0 (A 0) (own_ch 0)) (hS1 : StrIs Z h0 (A 1) (own_ch 1)) (hS2 : StrIs Z h0 (A 2) (own_ch 2)) (hS3 : StrIs Z h0 (A 3) (own_ch 3)) (hS4 : StrIs Z h0 (A 4) (own_ch 4)) (S_CS : Sta Z h0 "java/lang/String" "COMPACT_STRINGS" "Z" (.int cs)) (hcs : ¬ cs = 0) :
    MetFree l (⟨"com/example/grantline/grantline/engine/Actions", "index", "(Ljava/lang/String;)I"⟩ : MethodName) (head1 (Jvm.Cond.code (⟨"com/example/grantline/grantline/engine/Actions", "index", "(Ljava/lang/String;)I"⟩ : MethodName) prog_18_method_6_code 3 (some .int) :: ws) ({ frames := 6, cells := 0, slots := 0, locals := 120 } : Room)) (fun aQ U => aQ = #[(.ref a), (.ref (A 4))] ∧ Z.Warmed39 U.vm ∧ U.heap = h0) (fun _ _ _ _ _ => True) (fun _ U o U' => ∃ vQ LQ, o = .returned vQ ∧ PQ (some (.int (f_ixN_4 ))) h0 vQ U'.heap LQ ∧ FrameEnd U o U' LQ ({ frames := 6, cells := 0, slots := 0, locals := 120 } : Room).cells ({ frames := 6, cells := 0, slots := 0, locals := 120 } : Room).slots) := by
  refine MetFree.of_bodySF (plainFor_of_name pn_14) hisR ?_
  intro p e s m args below meth c s₁ Bd hml0 hP hK
  obtain ⟨rfl, hZ, hh⟩ := hP
  have hx := Bd.exec
  have hby := Bd.bytes
  have hml : c.maxLocals = 3 := hml0
  have hown : s.vm.findClass "com/example/grantline/grantline/engine/Actions" = some m.cls := findClass_of_methodNamed Bd.named
  have hnm := (name_of_methodNamed Bd.named Bd.method).1
  have X0 : Stand p l e ({ frames := 6, cells := 0, slots := 0, locals := 120 } : Room) s m #[(.ref a), (.ref (A 4))] below meth c s₁ [] 0 0 := Stand.of_body Bd
  have e0 : s₁.heap = h0 := by rw [← hh, Bd.state]; rfl
  refine Gl.out ?_
  refine Gl.go ?_ (fun t k => castTop (ef_rm_ixN_4 m a (A 4)) k)
  show Gl _ _ _ _ (s₁.setTop (mkF m 0 _ []))
  refine Gl.go ?_ (fun t k => XS.aloadN X0.here hx rfl (hb hby d14_0) rfl rfl k)
  show Gl _ _ _ _ (s₁.setTop (mkF m 1 #[.val (.ref a), .val (.ref (A 4)), .unset] [(.ref a)]))
  obtain ⟨T62, X62, e62, st62⟩ := getF X0 hx hZ hown (host := "") (Or.inl (hw _ (List.mem_of_getElem? (i := 75) rfl))) Via.refl e0 F_nm (g := (mkF m 1 #[.val (.ref a), .val (.ref (A 4)), .unset] [(.ref a)])) rfl rfl (hb hby d14_1)
  refine Gl.go ?_ st62
  show Gl _ _ _ _ (T62.setTop (mkF m 4 _ [(.ref ls)]))
  refine Gl.go ?_ (fun t k => XS.aloadN X62.here hx rfl (hb hby d14_4) rfl rfl k)
  show Gl _ _ _ _ (T62.setTop (mkF m 5 #[.val (.ref a), .val (.ref (A 4)), .unset] [(.ref (A 4)), (.ref ls)]))
  obtain ⟨cq63, kq63, q63a, q63b, q63c⟩ := isOf hZ e62 E_l
  obtain ⟨_, _, ⟨T63, L63, k63, n63⟩, -, X63, ⟨Lc63, hQ63, l63, y63, z63⟩, st63⟩ := X62.interfaceBack hx (xi := (⟨"java/util/List", "indexOf", "(Ljava/lang/Object;)I"⟩ : MethodName)) (y := (⟨"java/util/ImmutableCollections$ListN", "indexOf", "(Ljava/lang/Object;)I"⟩ : MethodName)) hown (mvT hZ (hw _ (List.mem_of_getElem? (i := 103) rfl))) (mvT hZ (hw _ (List.mem_of_getElem? (i := 104) rfl))) (mvT hZ (hw _ (List.mem_of_getElem? (i := 105) rfl))) (mvT hZ (hw _ (List.mem_of_getElem? (i := 106) rfl))) (mvT hZ (hw _ (List.mem_of_getElem? (i := 107) rfl))) (mvT hZ (hw _ (List.mem_of_getElem? (i := 108) rfl))) (mvT hZ (hw _ (List.mem_of_getElem? (i := 109) rfl))) (mvT hZ (hw _ (List.mem_of_getElem? (i := 110) rfl))) (by decide) (backOf (W := 0) (rm_xN_4 l Z a0 hw [] ls A cs ea N h0 F_el F_an hRA hN hS0 hS1 hS2 hS3 hS4 S_CS hcs) hZ (hw _ (List.mem_of_getElem? (i := 111) rfl)) (hw _ (List.mem_of_getElem? (i := 40) rfl)) (by decide) (by decide)) q63a q63b q63c (g := (mkF m 5 #[.val (.ref a), .val (.ref (A 4)), .unset] [(.ref (A 4)), (.ref ls)])) rfl (by rw [hml]; rfl) (Steps.refl _) (argsL := [(.ref (A 4))]) (rest := []) (lenOf pd_4 rfl) rfl (by show 2 * 0 + _ ≤ _; exact Nat.le_of_eq rfl) (hb hby d14_5) (fun _ _ => ⟨rfl, e62, (by decide : 0 + 0 ≤ _), (by decide : 0 + 0 ≤ _)⟩)
  dsimp only [Pt.U, Pt.locs, Pt.cells, Pt.slots] at X63 l63 y63 z63 st63 hQ63
  rw [l63, y63, z63] at X63
  clear l63 y63 z63
  obtain ⟨rfl, rfl, e63⟩ := hQ63
  refine Gl.tr ?_ st63
  show Gl _ _ _ _ (T63.setTop (mkF m 10 #[.val (.ref a), .val (.ref (A 4)), .unset] [(.int (4 : Int32))]))
  refine Gl.go ?_ (fun t k => XS.istoreN X63.here hx rfl (hb hby d14_10) rfl (l' := #[.val (.ref a), .val (.ref (A 4)), .val (.int (4 : Int32))]) rfl k)
  show Gl _ _ _ _ (T63.setTop (mkF m 11 _ []))
  refine Gl.go ?_ (fun t k => XS.iloadN X63.here hx rfl (hb hby d14_11) rfl k)
  show Gl _ _ _ _ (T63.setTop (mkF m 12 _ [(.int (4 : Int32))]))
  refine Gl.go ?_ (fun t k => XS.ifYes X63.here hx rfl (pc0 := 12) (pc' := 36) rfl (hb hby d14_12) rfl ((if0 _ _).trans (flt (by decide : ¬ ((4 : Int32) < (0 : Int32)))).2.1) (by decide) (by decide) k)
  show Gl _ _ _ _ (T63.setTop (mkF m 36 _ []))
  refine Gl.go ?_ (fun t k => XS.iloadN X63.here hx rfl (hb hby d14_36) rfl k)
  show Gl _ _ _ _ (T63.setTop (mkF m 37 _ [(.int (4 : Int32))]))
  obtain ⟨fs, hr, hrun, hended, hW, hsame⟩ := X63.leave (v := some (.int (4 : Int32))) (fun h => by rw [Bd.returns] at h; cases h) (BodyLoose.notSynchronized Bd)
  exact Gl.mk ⟨_, _, retI X63 hx Bd.returns (hb hby d14_37) hr, hrun, hended, _, _, rfl, ⟨congrArg (fun z => some (Value.int z)) (rfl).symm, rfl, e63⟩, ⟨_, rfl⟩, hW, hsame.mono (by decide) (by decide)⟩
/-- the list of the n names A 0 .. : what List.of made of them -/
def LK (Z : State) (h : Heap) (ls : Addr) (n : Nat) (A : Nat → Addr) : Prop :=
  (n ≤ 2 ∧ (1 ≤ n → Exa Z h ls "java/util/ImmutableCollections$List12" ∧ Fld Z h ls "java/util/ImmutableCollections$List12" "e0" "Ljava/lang/Object;" (.ref (A 0))) ∧ (n = 2 → Fld Z h ls "java/util/ImmutableCollections$List12" "e1" "Ljava/lang/Object;" (.ref (A 1)))) ∨
  (3 ≤ n ∧ n ≤ 5 ∧ Exa Z h ls "java/util/ImmutableCollections$ListN" ∧ Fld Z h ls "java/util/ImmutableCollections$ListN" "allowNulls" "Z" (.int 0) ∧ ∃ ea, Fld Z h ls "java/util/ImmutableCollections$ListN" "elements" "[Ljava/lang/Object;" (.ref ea) ∧ RA Z h ea (.object "java/lang/Object") (Int32.ofNat n) A)
theorem rm_index (l : Launch) (Z : State) (a0 : Array Value) (hw : ∀ d ∈ tables_1, d.before a0 Z = true) (ws : List Jvm.Cond) (a : Addr) (A : Nat → Addr) (n j : Nat) (cs : Int32) (em ls : Addr) (h0 : Heap) (F_nm : Fld Z h0 a "com/example/grantline/grantline/engine/Actions" "names" "Ljava/util/List;" (.ref ls)) (hLK : LK Z h0 ls n A) (S_EM : Sta Z h0 "java/util/ImmutableCollections" "EMPTY" "Ljava/lang/Object;" (.ref em)) (hem : 2 ≤ n → (A 1) ≠ em) (hS : ∀ i, i < n → StrIs Z h0 (A i) (own_ch i)) (S_CS : Sta Z h0 "java/lang/String" "COMPACT_STRINGS" "Z" (.int cs)) (hcs : ¬ cs = 0) (hj : j < n) :
    MetFree l (⟨"com/example/grantline/grantline/engine/Actions", "index", "(Ljava/lang/String;)I"⟩ : MethodName) (head1 (Jvm.Cond.code (⟨"com/example/grantline/grantline/engine/Actions", "index", "(Ljava/lang/String;)I"⟩ : MethodName) prog_18_method_6_code 3 (some .int) :: ws) ({ frames := 6, cells := 0, slots := 0, locals := 120 } : Room)) (fun aQ U => aQ = #[.ref a, .ref (A j)] ∧ Z.Warmed39 U.vm ∧ U.heap = h0) (fun _ _ _ _ _ => True) (fun _ U o U' => ∃ vQ LQ, o = .returned vQ ∧ PQ (some (.int (Int32.ofNat j))) h0 vQ U'.heap LQ ∧ FrameEnd U o U' LQ ({ frames := 6, cells := 0, slots := 0, locals := 120 } : Room).cells ({ frames := 6, cells := 0, slots := 0, locals := 120 } : Room).slots) := by
  rcases hLK with ⟨hn, h1, h2⟩ | ⟨hn3, hn5, E_l, F_an, ea, F_el, hRA⟩
  · obtain rfl | rfl : j = 0 ∨ j = 1 := by omega
    · exact rm_ix12_0 l Z a0 hw ws a A cs em ls h0 F_nm (h1 (by omega)).1 (h1 (by omega)).2 (hS 0 (by omega)) S_CS hcs
    · exact rm_ix12_1 l Z a0 hw ws a A cs em ls h0 F_nm (h1 (by omega)).1 (h1 (by omega)).2 (h2 (by omega)) S_EM (hem (by omega)) (hS 0 (by omega)) (hS 1 (by omega)) S_CS hcs
  · obtain rfl | rfl | rfl | rfl | rfl : j = 0 ∨ j = 1 ∨ j = 2 ∨ j = 3 ∨ j = 4 := by omega
    · exact rm_ixN_0 l Z a0 hw ws a A cs ls ea (Int32.ofNat n) h0 F_nm E_l F_el F_an hRA (by rw [Int32.toInt_ofNat_of_lt (by omega)]; omega) (hS 0 (by omega)) S_CS hcs
    · exact rm_ixN_1 l Z a0 hw ws a A cs ls ea (Int32.ofNat n) h0 F_nm E_l F_el F_an hRA (by rw [Int32.toInt_ofNat_of_lt (by omega)]; omega) (hS 0 (by omega)) (hS 1 (by omega)) S_CS hcs
    · exact rm_ixN_2 l Z a0 hw ws a A cs ls ea (Int32.ofNat n) h0 F_nm E_l F_el F_an hRA (by rw [Int32.toInt_ofNat_of_lt (by omega)]; omega) (hS 0 (by omega)) (hS 1 (by omega)) (hS 2 (by omega)) S_CS hcs
    · exact rm_ixN_3 l Z a0 hw ws a A cs ls ea (Int32.ofNat n) h0 F_nm E_l F_el F_an hRA (by rw [Int32.toInt_ofNat_of_lt (by omega)]; omega) (hS 0 (by omega)) (hS 1 (by omega)) (hS 2 (by omega)) (hS 3 (by omega)) S_CS hcs
    · exact rm_ixN_4 l Z a0 hw ws a A cs ls ea (Int32.ofNat n) h0 F_nm E_l F_el F_an hRA (by rw [Int32.toInt_ofNat_of_lt (by omega)]; omega) (hS 0 (by omega)) (hS 1 (by omega)) (hS 2 (by omega)) (hS 3 (by omega)) (hS 4 (by omega)) S_CS hcs
theorem d12_0 : decode prog_18_method_5_code 0 = .ok (.iconst 0, 1) := by decide +kernel
theorem d12_1 : decode prog_18_method_5_code 1 = .ok (.istore_n 2, 1) := by decide +kernel
theorem d12_2 : decode prog_18_method_5_code 2 = .ok (.iconst 0, 1) := by decide +kernel
theorem d12_3 : decode prog_18_method_5_code 3 = .ok (.istore_n 3, 1) := by decide +kernel
theorem d12_4 : decode prog_18_method_5_code 4 = .ok (.iload_n 3, 1) := by decide +kernel
theorem d12_5 : decode prog_18_method_5_code 5 = .ok (.aload_n 0, 1) := by decide +kernel
theorem d12_6 : decode prog_18_method_5_code 6 = .ok (.getfield 13, 3) := by decide +kernel
theorem d12_9 : decode prog_18_method_5_code 9 = .ok (.arraylength, 1) := by decide +kernel
theorem d12_10 : decode prog_18_method_5_code 10 = .ok (.if_icmp .ge 26, 3) := by decide +kernel
theorem d12_13 : decode prog_18_method_5_code 13 = .ok (.iload_n 1, 1) := by decide +kernel
theorem d12_14 : decode prog_18_method_5_code 14 = .ok (.iconst 1, 1) := by decide +kernel
theorem d12_15 : decode prog_18_method_5_code 15 = .ok (.iload_n 3, 1) := by decide +kernel
theorem d12_16 : decode prog_18_method_5_code 16 = .ok (.ishl, 1) := by decide +kernel
theorem d12_17 : decode prog_18_method_5_code 17 = .ok (.iand, 1) := by decide +kernel
theorem d12_18 : decode prog_18_method_5_code 18 = .ok (.ifCond .eq 12, 3) := by decide +kernel
theorem d12_21 : decode prog_18_method_5_code 21 = .ok (.iload_n 2, 1) := by decide +kernel
theorem d12_22 : decode prog_18_method_5_code 22 = .ok (.aload_n 0, 1) := by decide +kernel
theorem d12_23 : decode prog_18_method_5_code 23 = .ok (.getfield 13, 3) := by decide +kernel
theorem d12_26 : decode prog_18_method_5_code 26 = .ok (.iload_n 3, 1) := by decide +kernel
theorem d12_27 : decode prog_18_method_5_code 27 = .ok (.iaload, 1) := by decide +kernel
theorem d12_28 : decode prog_18_method_5_code 28 = .ok (.ior, 1) := by decide +kernel
theorem d12_29 : decode prog_18_method_5_code 29 = .ok (.istore_n 2, 1) := by decide +kernel
theorem d12_30 : decode prog_18_method_5_code 30 = .ok (.iinc 3 1, 3) := by decide +kernel
theorem d12_33 : decode prog_18_method_5_code 33 = .ok (.goto (-29), 3) := by decide +kernel
theorem d12_36 : decode prog_18_method_5_code 36 = .ok (.iload_n 2, 1) := by decide +kernel
theorem d12_37 : decode prog_18_method_5_code 37 = .ok (.ireturn, 1) := by decide +kernel
theorem pn_12 : plainName "com/example/grantline/grantline/engine/Actions" = true := by first | (simp [plainName, overriddenIn]; done) | decide +kernel
def f_msk (f : Int32 → Int32) (named : Int32) : Nat → Int32 → Int32 → Int32
  | 0, _, mx => mx
  | k + 1, i, mx => f_msk f named k (i + 1) (if (named &&& ((1 : Int32) <<< (i &&& 31))) = (0 : Int32) then mx else (mx ||| (f i)))
set_option maxRecDepth 65536 in
set_option maxHeartbeats 40000000 in
theorem loop_msk {p : Program} {l : Launch} {e : Env} {R : Room} {s : State} {m : MethodId} {args : Array Value} {below : List Frame} {meth : Method} {c : Code} {locs : List Loc} {cells slots : Nat} {Z : State} {h0 : Heap} {K : State → Outcome → Prop} (hx : p.tables.exec = Jvm.exec) (hZ : Z.Warmed39 s.vm) (hby : c.code = prog_18_method_5_code) {a0 : Array Value} (hw : ∀ d ∈ tables_1, d.before a0 Z = true) (hown : s.vm.findClass "com/example/grantline/grantline/engine/Actions" = some m.cls) (a ia : Addr) (named N : Int32) (f : Int32 → Int32) (F_im : Fld Z h0 a "com/example/grantline/grantline/engine/Actions" "implied" "[I" (.ref ia)) (hB : BA Z h0 ia .int N f) : ∀ (k : Nat) (i mx : Int32) (T : State) (X0 : Stand p l e R s m args below meth c T locs cells slots) (e0 : T.heap = h0), 0 ≤ i.toInt → i.toInt + k = N.toInt → (∀ (T : State) (X : Stand p l e R s m args below meth c T locs cells slots) (e1 : T.heap = h0) (z : Int32), Gl p.tables e below K (T.setTop (mkF m 36 #[.val (.ref a), .val (.int named), .val (.int (f_msk f named k i mx)), .val (.int z)] []))) → Gl p.tables e below K (T.setTop (mkF m 4 #[.val (.ref a), .val (.int named), .val (.int mx), .val (.int i)] [])) := by
  intro k
  induction k with
  | zero =>
    intro i mx T X0 e0 h1 h2 cont
    have hc : ¬ i < N := by rw [Int32.lt_iff_toInt_lt]; omega
    show Gl _ _ _ _ (T.setTop (mkF m 4 _ []))
    refine Gl.go ?_ (fun t k => XS.iloadN X0.here hx rfl (hb hby d12_4) rfl k)
    show Gl _ _ _ _ (T.setTop (mkF m 5 _ [(.int i)]))
    refine Gl.go ?_ (fun t k => XS.aloadN X0.here hx rfl (hb hby d12_5) rfl rfl k)
    show Gl _ _ _ _ (T.setTop (mkF m 6 #[.val (.ref a), .val (.int named), .val (.int mx), .val (.int i)] [(.ref a), (.int i)]))
    obtain ⟨T64, X64, e64, st64⟩ := getF X0 hx hZ hown (host := "") (Or.inl (hw _ (List.mem_of_getElem? (i := 77) rfl))) Via.refl e0 F_im (g := (mkF m 6 #[.val (.ref a), .val (.int named), .val (.int mx), .val (.int i)] [(.ref a), (.int i)])) rfl rfl (hb hby d12_6)
    refine Gl.go ?_ st64
    show Gl _ _ _ _ (T64.setTop (mkF m 9 #[.val (.ref a), .val (.int named), .val (.int mx), .val (.int i)] [(.ref ia), (.int i)]))
    refine Gl.go ?_ (BA.len hB X64 hx hZ e64 (g := (mkF m 9 #[.val (.ref a), .val (.int named), .val (.int mx), .val (.int i)] [(.ref ia), (.int i)])) rfl rfl (hb hby d12_9))
    show Gl _ _ _ _ (T64.setTop (mkF m 10 _ [(.int N), (.int i)]))
    refine Gl.go ?_ (fun t k => XS.icmpYes X64.here hx rfl (pc0 := 10) (pc' := 36) rfl (hb hby d12_10) rfl (flt hc).2.1 (by decide) (by decide) k)
    show Gl _ _ _ _ (T64.setTop (mkF m 36 #[.val (.ref a), .val (.int named), .val (.int mx), .val (.int i)] []))
    exact cont T64 X64 e64 i
  | succ k ih =>
    intro i mx T X0 e0 h1 h2 cont
    have h3 : i.toInt < N.toInt := by omega
    have hc : i < N := Int32.lt_iff_toInt_lt.mpr h3
    have h5 := N.toInt_lt
    have h4 : (i + (1 : Int32)).toInt = i.toInt + 1 := own_succ (by omega)
    by_cases hz : (named &&& ((1 : Int32) <<< (i &&& 31))) = (0 : Int32)
    · skip
      show Gl _ _ _ _ (T.setTop (mkF m 4 _ []))
      refine Gl.go ?_ (fun t k => XS.iloadN X0.here hx rfl (hb hby d12_4) rfl k)
      show Gl _ _ _ _ (T.setTop (mkF m 5 _ [(.int i)]))
      refine Gl.go ?_ (fun t k => XS.aloadN X0.here hx rfl (hb hby d12_5) rfl rfl k)
      show Gl _ _ _ _ (T.setTop (mkF m 6 #[.val (.ref a), .val (.int named), .val (.int mx), .val (.int i)] [(.ref a), (.int i)]))
      obtain ⟨T65, X65, e65, st65⟩ := getF X0 hx hZ hown (host := "") (Or.inl (hw _ (List.mem_of_getElem? (i := 77) rfl))) Via.refl e0 F_im (g := (mkF m 6 #[.val (.ref a), .val (.int named), .val (.int mx), .val (.int i)] [(.ref a), (.int i)])) rfl rfl (hb hby d12_6)
      refine Gl.go ?_ st65
      show Gl _ _ _ _ (T65.setTop (mkF m 9 #[.val (.ref a), .val (.int named), .val (.int mx), .val (.int i)] [(.ref ia), (.int i)]))
      refine Gl.go ?_ (BA.len hB X65 hx hZ e65 (g := (mkF m 9 #[.val (.ref a), .val (.int named), .val (.int mx), .val (.int i)] [(.ref ia), (.int i)])) rfl rfl (hb hby d12_9))
      show Gl _ _ _ _ (T65.setTop (mkF m 10 _ [(.int N), (.int i)]))
      refine Gl.go ?_ (fun t k => XS.icmpNo X65.here hx rfl (hb hby d12_10) rfl (tlt hc).2.1 k)
      show Gl _ _ _ _ (T65.setTop (mkF m 13 _ []))
      refine Gl.go ?_ (fun t k => XS.iloadN X65.here hx rfl (hb hby d12_13) rfl k)
      show Gl _ _ _ _ (T65.setTop (mkF m 14 _ [(.int named)]))
      refine Gl.go ?_ (fun t k => XS.iconst X65.here hx rfl (hb hby d12_14) k)
      show Gl _ _ _ _ (T65.setTop (mkF m 15 _ [(.int (1 : Int32)), (.int named)]))
      refine Gl.go ?_ (fun t k => XS.iloadN X65.here hx rfl (hb hby d12_15) rfl k)
      show Gl _ _ _ _ (T65.setTop (mkF m 16 _ [(.int i), (.int (1 : Int32)), (.int named)]))
      refine Gl.go ?_ (fun t k => XS.ishl X65.here hx rfl (hb hby d12_16) rfl k)
      show Gl _ _ _ _ (T65.setTop (mkF m 17 _ [(.int ((1 : Int32) <<< (i &&& 31))), (.int named)]))
      refine Gl.go ?_ (fun t k => XS.iand X65.here hx rfl (hb hby d12_17) rfl k)
      show Gl _ _ _ _ (T65.setTop (mkF m 18 _ [(.int (named &&& ((1 : Int32) <<< (i &&& 31))))]))
      refine Gl.go ?_ (fun t k => XS.ifYes X65.here hx rfl (pc0 := 18) (pc' := 30) rfl (hb hby d12_18) rfl ((if0 _ _).trans (teq hz).1) (by decide) (by decide) k)
      show Gl _ _ _ _ (T65.setTop (mkF m 30 #[.val (.ref a), .val (.int named), .val (.int mx), .val (.int i)] []))
      refine Gl.go ?_ (fun t k => XS.iinc X65.here hx rfl (hb hby d12_30) rfl (l' := #[.val (.ref a), .val (.int named), .val (.int mx), .val (.int (i + (1 : Int32)))]) rfl k)
      show Gl _ _ _ _ (T65.setTop (mkF m 33 _ []))
      refine Gl.go ?_ (fun t k => XS.goto X65.here hx rfl (pc0 := 33) (pc' := 4) rfl (hb hby d12_33) (by decide) (by decide) k)
      have q : f_msk f named (k + 1) i mx = f_msk f named k (i + 1) mx := by rw [f_msk, if_pos hz]
      rw [q] at cont
      exact ih (i + 1) mx T65 X65 e65 (by omega) (by omega) cont
    · skip
      show Gl _ _ _ _ (T.setTop (mkF m 4 _ []))
      refine Gl.go ?_ (fun t k => XS.iloadN X0.here hx rfl (hb hby d12_4) rfl k)
      show Gl _ _ _ _ (T.setTop (mkF m 5 _ [(.int i)]))
      refine Gl.go ?_ (fun t k => XS.aloadN X0.here hx rfl (hb hby d12_5) rfl rfl k)
      show Gl _ _ _ _ (T.setTop (mkF m 6 #[.val (.ref a), .val (.int named), .val (.int mx), .val (.int i)] [(.ref a), (.int i)]))
      obtain ⟨T66, X66, e66, st66⟩ := getF X0 hx hZ hown (host := "") (Or.inl (hw _ (List.mem_of_getElem? (i := 77) rfl))) Via.refl e0 F_im (g := (mkF m 6 #[.val (.ref a), .val (.int named), .val (.int mx), .val (.int i)] [(.ref a), (.int i)])) rfl rfl (hb hby d12_6)
      refine Gl.go ?_ st66
      show Gl _ _ _ _ (T66.setTop (mkF m 9 #[.val (.ref a), .val (.int named), .val (.int mx), .val (.int i)] [(.ref ia), (.int i)]))
      refine Gl.go ?_ (BA.len hB X66 hx hZ e66 (g := (mkF m 9 #[.val (.ref a), .val (.int named), .val (.int mx), .val (.int i)] [(.ref ia), (.int i)])) rfl rfl (hb hby d12_9))
      show Gl _ _ _ _ (T66.setTop (mkF m 10 _ [(.int N), (.int i)]))
      refine Gl.go ?_ (fun t k => XS.icmpNo X66.here hx rfl (hb hby d12_10) rfl (tlt hc).2.1 k)
      show Gl _ _ _ _ (T66.setTop (mkF m 13 _ []))
      refine Gl.go ?_ (fun t k => XS.iloadN X66.here hx rfl (hb hby d12_13) rfl k)
      show Gl _ _ _ _ (T66.setTop (mkF m 14 _ [(.int named)]))
      refine Gl.go ?_ (fun t k => XS.iconst X66.here hx rfl (hb hby d12_14) k)
      show Gl _ _ _ _ (T66.setTop (mkF m 15 _ [(.int (1 : Int32)), (.int named)]))
      refine Gl.go ?_ (fun t k => XS.iloadN X66.here hx rfl (hb hby d12_15) rfl k)
      show Gl _ _ _ _ (T66.setTop (mkF m 16 _ [(.int i), (.int (1 : Int32)), (.int named)]))
      refine Gl.go ?_ (fun t k => XS.ishl X66.here hx rfl (hb hby d12_16) rfl k)
      show Gl _ _ _ _ (T66.setTop (mkF m 17 _ [(.int ((1 : Int32) <<< (i &&& 31))), (.int named)]))
      refine Gl.go ?_ (fun t k => XS.iand X66.here hx rfl (hb hby d12_17) rfl k)
      show Gl _ _ _ _ (T66.setTop (mkF m 18 _ [(.int (named &&& ((1 : Int32) <<< (i &&& 31))))]))
      refine Gl.go ?_ (fun t k => XS.ifNo X66.here hx rfl (hb hby d12_18) rfl ((if0 _ _).trans (feq hz).1) k)
      show Gl _ _ _ _ (T66.setTop (mkF m 21 _ []))
      refine Gl.go ?_ (fun t k => XS.iloadN X66.here hx rfl (hb hby d12_21) rfl k)
      show Gl _ _ _ _ (T66.setTop (mkF m 22 _ [(.int mx)]))
      refine Gl.go ?_ (fun t k => XS.aloadN X66.here hx rfl (hb hby d12_22) rfl rfl k)
      show Gl _ _ _ _ (T66.setTop (mkF m 23 #[.val (.ref a), .val (.int named), .val (.int mx), .val (.int i)] [(.ref a), (.int mx)]))
      obtain ⟨T67, X67, e67, st67⟩ := getF X66 hx hZ hown (host := "") (Or.inl (hw _ (List.mem_of_getElem? (i := 77) rfl))) Via.refl e66 F_im (g := (mkF m 23 #[.val (.ref a), .val (.int named), .val (.int mx), .val (.int i)] [(.ref a), (.int mx)])) rfl rfl (hb hby d12_23)
      refine Gl.go ?_ st67
      show Gl _ _ _ _ (T67.setTop (mkF m 26 _ [(.ref ia), (.int mx)]))
      refine Gl.go ?_ (fun t k => XS.iloadN X67.here hx rfl (hb hby d12_26) rfl k)
      show Gl _ _ _ _ (T67.setTop (mkF m 27 #[.val (.ref a), .val (.int named), .val (.int mx), .val (.int i)] [(.int i), (.ref ia), (.int mx)]))
      refine Gl.go ?_ (BA.rdI hB X67 hx hZ e67 (iv_nlt' (k := 0) rfl h1) hc (g := (mkF m 27 #[.val (.ref a), .val (.int named), .val (.int mx), .val (.int i)] [(.int i), (.ref ia), (.int mx)])) rfl rfl (hb hby d12_27))
      show Gl _ _ _ _ (T67.setTop (mkF m 28 _ [(.int (f i)), (.int mx)]))
      refine Gl.go ?_ (fun t k => XS.ior X67.here hx rfl (hb hby d12_28) rfl k)
      show Gl _ _ _ _ (T67.setTop (mkF m 29 #[.val (.ref a), .val (.int named), .val (.int mx), .val (.int i)] [(.int (mx ||| (f i)))]))
      refine Gl.go ?_ (fun t k => XS.istoreN X67.here hx rfl (hb hby d12_29) rfl (l' := #[.val (.ref a), .val (.int named), .val (.int (mx ||| (f i))), .val (.int i)]) rfl k)
      show Gl _ _ _ _ (T67.setTop (mkF m 30 #[.val (.ref a), .val (.int named), .val (.int (mx ||| (f i))), .val (.int i)] []))
      refine Gl.go ?_ (fun t k => XS.iinc X67.here hx rfl (hb hby d12_30) rfl (l' := #[.val (.ref a), .val (.int named), .val (.int (mx ||| (f i))), .val (.int (i + (1 : Int32)))]) rfl k)
      show Gl _ _ _ _ (T67.setTop (mkF m 33 _ []))
      refine Gl.go ?_ (fun t k => XS.goto X67.here hx rfl (pc0 := 33) (pc' := 4) rfl (hb hby d12_33) (by decide) (by decide) k)
      have q : f_msk f named (k + 1) i mx = f_msk f named k (i + 1) (mx ||| (f i)) := by rw [f_msk, if_neg hz]
      rw [q] at cont
      exact ih (i + 1) (mx ||| (f i)) T67 X67 e67 (by omega) (by omega) cont
def f_mask (named : Int32) (n : Nat) (f : Int32 → Int32) : Int32 := (f_msk f named n 0 0)
theorem ef_rm12 (m : MethodId) (x0 : Addr) (x1 : Int32) : entryFrame m #[(.ref x0), (.int x1)] 4 = mkF m 0 #[.val (.ref x0), .val (.int x1), .unset, .unset] [] := by first | (simp [entryFrame, mkF, argsToLocals, Value.category]; done) | rfl
set_option maxRecDepth 65536 in
set_option maxHeartbeats 40000000 in
theorem rm12 (l : Launch) (Z : State) (a0 : Array Value) (hw : ∀ d ∈ tables_1, d.before a0 Z = true) (ws : List Jvm.Cond) (a : Addr) (named : Int32) (ia : Addr) (n : Nat) (N : Int32) (f : Int32 → Int32) (h0 : Heap) (F_im : Fld Z h0 a "com/example/grantline/grantline/engine/Actions" "implied" "[I" (.ref ia)) (hB : BA Z h0 ia .int N f) (hn : N.toInt = n) :
    MetFree l (⟨"com/example/grantline/grantline/engine/Actions", "impliedMask", "(I)I"⟩ : MethodName) (head1 (Jvm.Cond.code (⟨"com/example/grantline/grantline/engine/Actions", "impliedMask", "(I)I"⟩ : MethodName) prog_18_method_5_code 4 (some .int) :: ws) ({ frames := 0, cells := 0, slots := 0, locals := 0 } : Room)) (fun aQ U => aQ = #[(.ref a), (.int named)] ∧ Z.Warmed39 U.vm ∧ U.heap = h0) (fun _ _ _ _ _ => True) (fun _ U o U' => ∃ vQ LQ, o = .returned vQ ∧ PQ (some (.int (f_mask named n f))) h0 vQ U'.heap LQ ∧ FrameEnd U o U' LQ ({ frames := 0, cells := 0, slots := 0, locals := 0 } : Room).cells ({ frames := 0, cells := 0, slots := 0, locals := 0 } : Room).slots) := by
  refine MetFree.of_bodySF (plainFor_of_name pn_12) hisR ?_
  intro p e s m args below meth c s₁ Bd hml0 hP hK
  obtain ⟨rfl, hZ, hh⟩ := hP
  have hx := Bd.exec
  have hby := Bd.bytes
  have hml : c.maxLocals = 4 := hml0
  have hown : s.vm.findClass "com/example/grantline/grantline/engine/Actions" = some m.cls := findClass_of_methodNamed Bd.named
  have hnm := (name_of_methodNamed Bd.named Bd.method).1
  have X0 : Stand p l e ({ frames := 0, cells := 0, slots := 0, locals := 0 } : Room) s m #[(.ref a), (.int named)] below meth c s₁ [] 0 0 := Stand.of_body Bd
  have e0 : s₁.heap = h0 := by rw [← hh, Bd.state]; rfl
  refine Gl.out ?_
  refine Gl.go ?_ (fun t k => castTop (ef_rm12 m a named) k)
  show Gl _ _ _ _ (s₁.setTop (mkF m 0 _ []))
  refine Gl.go ?_ (fun t k => XS.iconst X0.here hx rfl (hb hby d12_0) k)
  show Gl _ _ _ _ (s₁.setTop (mkF m 1 #[.val (.ref a), .val (.int named), .unset, .unset] [(.int (0 : Int32))]))
  refine Gl.go ?_ (fun t k => XS.istoreN X0.here hx rfl (hb hby d12_1) rfl (l' := #[.val (.ref a), .val (.int named), .val (.int (0 : Int32)), .unset]) rfl k)
  show Gl _ _ _ _ (s₁.setTop (mkF m 2 _ []))
  refine Gl.go ?_ (fun t k => XS.iconst X0.here hx rfl (hb hby d12_2) k)
  show Gl _ _ _ _ (s₁.setTop (mkF m 3 #[.val (.ref a), .val (.int named), .val (.int (0 : Int32)), .unset] [(.int (0 : Int32))]))
  refine Gl.go ?_ (fun t k => XS.istoreN X0.here hx rfl (hb hby d12_3) rfl (l' := #[.val (.ref a), .val (.int named), .val (.int (0 : Int32)), .val (.int (0 : Int32))]) rfl k)
  refine loop_msk hx hZ hby hw hown a ia named N f F_im hB n 0 0 s₁ X0 e0 (by decide) (by rw [show (0 : Int32).toInt = 0 from rfl]; omega) (fun T1 X1 e1 z => ?_)
  show Gl _ _ _ _ (T1.setTop (mkF m 36 _ []))
  refine Gl.go ?_ (fun t k => XS.iloadN X1.here hx rfl (hb hby d12_36) rfl k)
  show Gl _ _ _ _ (T1.setTop (mkF m 37 _ [(.int (f_msk f named n 0 0))]))
  obtain ⟨fs, hr, hrun, hended, hW, hsame⟩ := X1.leave (v := some (.int (f_msk f named n 0 0))) (fun h => by rw [Bd.returns] at h; cases h) (BodyLoose.notSynchronized Bd)
  exact Gl.mk ⟨_, _, retI X1 hx Bd.returns (hb hby d12_37) hr, hrun, hended, _, _, rfl, ⟨congrArg (fun z => some (Value.int z)) (rfl).symm, rfl, e1⟩, ⟨_, rfl⟩, hW, hsame.mono (by decide) (by decide)⟩
theorem own_mvM {Z s : State} {a0 args : Array Value} {own host : String} {y : MethodName} {index : Nat} (hZ : Z.Warmed39 s.vm) (w : (Cond.methodLinkNest own index y host).before a0 Z = true) : (Cond.methodLinkNest own index y host).before args s = true := (Cond.methodLinkNest_wide hZ w :)
theorem own_cast {P : Heap → Option Value → List Loc → Prop} {T : State} {fs : List Frame} {H : Heap} {v : Option Value} {L : List Loc} (e : T.heap = H) (q : P H v L) : P (T.setFrames fs).heap v L := by
  show P T.heap v L
  rw [e]; exact q
theorem own_oext {h0 h h' : Heap} (O : Ext h0 h) (E : Ext h h') : Ext h0 h' := ⟨Nat.le_trans O.1 E.1, fun a c q => E.2 a c (O.2 a c q)⟩
theorem own_okeep {h0 h h' : Heap} {ws : List Addr} (O : Ext h0 h) (K : Keep h h' ws) (q : ∀ x ∈ ws, h0.size ≤ x) : Ext h0 h' := ⟨Nat.le_trans O.1 K.1, fun a c r => K.2.1 a c (O.2 a c r) fun z => absurd (Array.getElem?_eq_some_iff.mp r).1 (Nat.not_lt.mpr (q a z))⟩
theorem own_owr {h0 h h' : Heap} {a : Addr} {sl : Nat} {v : Value} (O : Ext h0 h) (W : Wr h h' a sl v) (q : h0.size ≤ a) : Ext h0 h' := own_okeep O (Keep.of_wr W) (fun x hx => by cases List.mem_singleton.mp hx; exact q)
theorem own_erefl (h : Heap) : Ext h h := ⟨Nat.le_refl _, fun _ _ q => q⟩
theorem d9_0 : decode jdk_22_method_1_code 0 = .ok (.aload_n 0, 1) := by decide +kernel
theorem d9_1 : decode jdk_22_method_1_code 1 = .ok (.invokespecial 1, 3) := by decide +kernel
theorem d9_4 : decode jdk_22_method_1_code 4 = .ok (.return_, 1) := by decide +kernel
theorem pn_9 : plainName "java/util/AbstractCollection" = true := by first | (simp [plainName, overriddenIn]; done) | decide +kernel
theorem ef_rm9 (m : MethodId) (x0 : Addr) : entryFrame m #[(.ref x0)] 1 = mkF m 0 #[.val (.ref x0)] [] := by first | (simp [entryFrame, mkF, argsToLocals, Value.category]; done) | rfl
set_option maxRecDepth 65536 in
set_option maxHeartbeats 40000000 in
theorem rm9 (l : Launch) (Z : State) (a0 : Array Value) (hw : ∀ d ∈ tables_1, d.before a0 Z = true) (ws : List Jvm.Cond) (a : Addr)  (h0 : Heap)  :
    MetFree l (⟨"java/util/AbstractCollection", "<init>", "()V"⟩ : MethodName) (head1 (Jvm.Cond.code (⟨"java/util/AbstractCollection", "<init>", "()V"⟩ : MethodName) jdk_22_method_1_code 1 none :: ws) ({ frames := 1, cells := 0, slots := 0, locals := 12 } : Room)) (fun aQ U => aQ = #[(.ref a)] ∧ Z.Warmed39 U.vm ∧ U.heap = h0) (fun _ _ _ _ _ => True) (fun _ U o U' => ∃ vQ LQ, o = .returned vQ ∧ PQ none h0 vQ U'.heap LQ ∧ FrameEnd U o U' LQ ({ frames := 1, cells := 0, slots := 0, locals := 12 } : Room).cells ({ frames := 1, cells := 0, slots := 0, locals := 12 } : Room).slots) := by
  refine MetFree.of_bodySF (plainFor_of_name pn_9) hisR ?_
  intro p e s m args below meth c s₁ Bd hml0 hP hK
  obtain ⟨rfl, hZ, hh⟩ := hP
  have hx := Bd.exec
  have hby := Bd.bytes
  have hml : c.maxLocals = 1 := hml0
  have hown : s.vm.findClass "java/util/AbstractCollection" = some m.cls := findClass_of_methodNamed Bd.named
  have hnm := (name_of_methodNamed Bd.named Bd.method).1
  have X0 : Stand p l e ({ frames := 1, cells := 0, slots := 0, locals := 12 } : Room) s m #[(.ref a)] below meth c s₁ [] 0 0 := Stand.of_body Bd
  have e0 : s₁.heap = h0 := by rw [← hh, Bd.state]; rfl
  refine Gl.out ?_
  refine Gl.go ?_ (fun t k => castTop (ef_rm9 m a) k)
  show Gl _ _ _ _ (s₁.setTop (mkF m 0 _ []))
  refine Gl.go ?_ (fun t k => XS.aloadN X0.here hx rfl (hb hby d9_0) rfl rfl k)
  show Gl _ _ _ _ (s₁.setTop (mkF m 1 #[.val (.ref a)] [(.ref a)]))
  obtain ⟨T68, X68, e68, st68⟩ := initO X0 hx hZ hown (hw _ (List.mem_of_getElem? (i := 63) rfl)) (hw _ (List.mem_of_getElem? (i := 64) rfl)) (hw _ (List.mem_of_getElem? (i := 65) rfl)) e0 (g := (mkF m 1 #[.val (.ref a)] [(.ref a)])) rfl (by rw [hml]; rfl) rfl (hb hby d9_1) (by decide) (W := 0) (by show 2 * 0 + _ ≤ _; exact Nat.le_of_eq rfl) (by decide)
  refine Gl.go ?_ st68
  show Gl _ _ _ _ (T68.setTop (mkF m 4 _ []))
  obtain ⟨fs, hr, hrun, hended, hW, hsame⟩ := X68.leave (v := none) (fun _ => rfl) (BodyLoose.notSynchronized Bd)
  exact Gl.mk ⟨_, _, X68.returnOut hx Bd.returns (hb hby d9_4) hr, hrun, hended, _, _, rfl, ⟨rfl, rfl, e68⟩, ⟨_, rfl⟩, hW, hsame.mono (by decide) (by decide)⟩
theorem d8_0 : decode jdk_47_method_1_code 0 = .ok (.aload_n 0, 1) := by decide +kernel
theorem d8_1 : decode jdk_47_method_1_code 1 = .ok (.invokespecial 1, 3) := by decide +kernel
theorem d8_4 : decode jdk_47_method_1_code 4 = .ok (.return_, 1) := by decide +kernel
theorem pn_8 : plainName "java/util/ImmutableCollections$AbstractImmutableCollection" = true := by first | (simp [plainName, overriddenIn]; done) | decide +kernel
theorem pd_5 : parseMethodDescriptor "()V" = some ⟨[], none⟩ := by decide +kernel
theorem ef_rm8 (m : MethodId) (x0 : Addr) : entryFrame m #[(.ref x0)] 1 = mkF m 0 #[.val (.ref x0)] [] := by first | (simp [entryFrame, mkF, argsToLocals, Value.category]; done) | rfl
set_option maxRecDepth 65536 in
set_option maxHeartbeats 40000000 in
theorem rm8 (l : Launch) (Z : State) (a0 : Array Value) (hw : ∀ d ∈ tables_1, d.before a0 Z = true) (ws : List Jvm.Cond) (a : Addr)  (h0 : Heap)  :
    MetFree l (⟨"java/util/ImmutableCollections$AbstractImmutableCollection", "<init>", "()V"⟩ : MethodName) (head1 (Jvm.Cond.code (⟨"java/util/ImmutableCollections$AbstractImmutableCollection", "<init>", "()V"⟩ : MethodName) jdk_47_method_1_code 1 none :: ws) ({ frames := 2, cells := 0, slots := 0, locals := 24 } : Room)) (fun aQ U => aQ = #[(.ref a)] ∧ Z.Warmed39 U.vm ∧ U.heap = h0) (fun _ _ _ _ _ => True) (fun _ U o U' => ∃ vQ LQ, o = .returned vQ ∧ PQ none h0 vQ U'.heap LQ ∧ FrameEnd U o U' LQ ({ frames := 2, cells := 0, slots := 0, locals := 24 } : Room).cells ({ frames := 2, cells := 0, slots := 0, locals := 24 } : Room).slots) := by
  refine MetFree.of_bodySF (plainFor_of_name pn_8) hisR ?_
  intro p e s m args below meth c s₁ Bd hml0 hP hK
  obtain ⟨rfl, hZ, hh⟩ := hP
  have hx := Bd.exec
  have hby := Bd.bytes
  have hml : c.maxLocals = 1 := hml0
  have hown : s.vm.findClass "java/util/ImmutableCollections$AbstractImmutableCollection" = some m.cls := findClass_of_methodNamed Bd.named
  have hnm := (name_of_methodNamed Bd.named Bd.method).1
  have X0 : Stand p l e ({ frames := 2, cells := 0, slots := 0, locals := 24 } : Room) s m #[(.ref a)] below meth c s₁ [] 0 0 := Stand.of_body Bd
  have e0 : s₁.heap = h0 := by rw [← hh, Bd.state]; rfl
  refine Gl.out ?_
  refine Gl.go ?_ (fun t k => castTop (ef_rm8 m a) k)
  show Gl _ _ _ _ (s₁.setTop (mkF m 0 _ []))
  refine Gl.go ?_ (fun t k => XS.aloadN X0.here hx rfl (hb hby d8_0) rfl rfl k)
  show Gl _ _ _ _ (s₁.setTop (mkF m 1 #[.val (.ref a)] [(.ref a)]))
  obtain ⟨_, _, ⟨T69, L69, k69, n69⟩, -, X69, ⟨Lc69, hQ69, l69, y69, z69⟩, st69⟩ := X0.specialBack hx (y := (⟨"java/util/AbstractCollection", "<init>", "()V"⟩ : MethodName)) rfl hown (mvT hZ (hw _ (List.mem_of_getElem? (i := 57) rfl))) (mvT hZ (hw _ (List.mem_of_getElem? (i := 58) rfl))) (mvT hZ (hw _ (List.mem_of_getElem? (i := 62) rfl))) (by decide) (backOf (W := 0) (rm9 l Z a0 hw [] a h0) hZ (hw _ (List.mem_of_getElem? (i := 62) rfl)) (hw _ (List.mem_of_getElem? (i := 61) rfl)) (by decide) (by decide)) (g := (mkF m 1 #[.val (.ref a)] [(.ref a)])) rfl (by rw [hml]; rfl) (Steps.refl _) (a := a) (argsL := []) (rest := []) (lenOf pd_5 rfl) rfl (by show 2 * 0 + _ ≤ _; exact Nat.le_of_eq rfl) (hb hby d8_1) (fun _ _ => ⟨rfl, e0, (by decide : 0 + 0 ≤ _), (by decide : 0 + 0 ≤ _)⟩)
  dsimp only [Pt.U, Pt.locs, Pt.cells, Pt.slots] at X69 l69 y69 z69 st69 hQ69
  rw [l69, y69, z69] at X69
  clear l69 y69 z69
  obtain ⟨rfl, rfl, e69⟩ := hQ69
  refine Gl.tr ?_ st69
  show Gl _ _ _ _ (T69.setTop (mkF m 4 _ []))
  obtain ⟨fs, hr, hrun, hended, hW, hsame⟩ := X69.leave (v := none) (fun _ => rfl) (BodyLoose.notSynchronized Bd)
  exact Gl.mk ⟨_, _, X69.returnOut hx Bd.returns (hb hby d8_4) hr, hrun, hended, _, _, rfl, ⟨rfl, rfl, e69⟩, ⟨_, rfl⟩, hW, hsame.mono (by decide) (by decide)⟩
theorem d7_0 : decode jdk_46_method_1_code 0 = .ok (.aload_n 0, 1) := by decide +kernel
theorem d7_1 : decode jdk_46_method_1_code 1 = .ok (.invokespecial 1, 3) := by decide +kernel
theorem d7_4 : decode jdk_46_method_1_code 4 = .ok (.return_, 1) := by decide +kernel
theorem pn_7 : plainName "java/util/ImmutableCollections$AbstractImmutableList" = true := by first | (simp [plainName, overriddenIn]; done) | decide +kernel
theorem ef_rm7 (m : MethodId) (x0 : Addr) : entryFrame m #[(.ref x0)] 1 = mkF m 0 #[.val (.ref x0)] [] := by first | (simp [entryFrame, mkF, argsToLocals, Value.category]; done) | rfl
set_option maxRecDepth 65536 in
set_option maxHeartbeats 40000000 in
theorem rm7 (l : Launch) (Z : State) (a0 : Array Value) (hw : ∀ d ∈ tables_1, d.before a0 Z = true) (ws : List Jvm.Cond) (a : Addr)  (h0 : Heap)  :
    MetFree l (⟨"java/util/ImmutableCollections$AbstractImmutableList", "<init>", "()V"⟩ : MethodName) (head1 (Jvm.Cond.code (⟨"java/util/ImmutableCollections$AbstractImmutableList", "<init>", "()V"⟩ : MethodName) jdk_46_method_1_code 1 none :: ws) ({ frames := 3, cells := 0, slots := 0, locals := 36 } : Room)) (fun aQ U => aQ = #[(.ref a)] ∧ Z.Warmed39 U.vm ∧ U.heap = h0) (fun _ _ _ _ _ => True) (fun _ U o U' => ∃ vQ LQ, o = .returned vQ ∧ PQ none h0 vQ U'.heap LQ ∧ FrameEnd U o U' LQ ({ frames := 3, cells := 0, slots := 0, locals := 36 } : Room).cells ({ frames := 3, cells := 0, slots := 0, locals := 36 } : Room).slots) := by
  refine MetFree.of_bodySF (plainFor_of_name pn_7) hisR ?_
  intro p e s m args below meth c s₁ Bd hml0 hP hK
  obtain ⟨rfl, hZ, hh⟩ := hP
  have hx := Bd.exec
  have hby := Bd.bytes
  have hml : c.maxLocals = 1 := hml0
  have hown : s.vm.findClass "java/util/ImmutableCollections$AbstractImmutableList" = some m.cls := findClass_of_methodNamed Bd.named
  have hnm := (name_of_methodNamed Bd.named Bd.method).1
  have X0 : Stand p l e ({ frames := 3, cells := 0, slots := 0, locals := 36 } : Room) s m #[(.ref a)] below meth c s₁ [] 0 0 := Stand.of_body Bd
  have e0 : s₁.heap = h0 := by rw [← hh, Bd.state]; rfl
  refine Gl.out ?_
  refine Gl.go ?_ (fun t k => castTop (ef_rm7 m a) k)
  show Gl _ _ _ _ (s₁.setTop (mkF m 0 _ []))
  refine Gl.go ?_ (fun t k => XS.aloadN X0.here hx rfl (hb hby d7_0) rfl rfl k)
  show Gl _ _ _ _ (s₁.setTop (mkF m 1 #[.val (.ref a)] [(.ref a)]))
  obtain ⟨_, _, ⟨T70, L70, k70, n70⟩, -, X70, ⟨Lc70, hQ70, l70, y70, z70⟩, st70⟩ := X0.specialBack hx (y := (⟨"java/util/ImmutableCollections$AbstractImmutableCollection", "<init>", "()V"⟩ : MethodName)) rfl hown (mvT hZ (hw _ (List.mem_of_getElem? (i := 51) rfl))) (mvT hZ (hw _ (List.mem_of_getElem? (i := 52) rfl))) (mvT hZ (hw _ (List.mem_of_getElem? (i := 56) rfl))) (by decide) (backOf (W := 0) (rm8 l Z a0 hw [] a h0) hZ (hw _ (List.mem_of_getElem? (i := 56) rfl)) (hw _ (List.mem_of_getElem? (i := 55) rfl)) (by decide) (by decide)) (g := (mkF m 1 #[.val (.ref a)] [(.ref a)])) rfl (by rw [hml]; rfl) (Steps.refl _) (a := a) (argsL := []) (rest := []) (lenOf pd_5 rfl) rfl (by show 2 * 0 + _ ≤ _; exact Nat.le_of_eq rfl) (hb hby d7_1) (fun _ _ => ⟨rfl, e0, (by decide : 0 + 0 ≤ _), (by decide : 0 + 0 ≤ _)⟩)
  dsimp only [Pt.U, Pt.locs, Pt.cells, Pt.slots] at X70 l70 y70 z70 st70 hQ70
  rw [l70, y70, z70] at X70
  clear l70 y70 z70
  obtain ⟨rfl, rfl, e70⟩ := hQ70
  refine Gl.tr ?_ st70
  show Gl _ _ _ _ (T70.setTop (mkF m 4 _ []))
  obtain ⟨fs, hr, hrun, hended, hW, hsame⟩ := X70.leave (v := none) (fun _ => rfl) (BodyLoose.notSynchronized Bd)
  exact Gl.mk ⟨_, _, X70.returnOut hx Bd.returns (hb hby d7_4) hr, hrun, hended, _, _, rfl, ⟨rfl, rfl, e70⟩, ⟨_, rfl⟩, hW, hsame.mono (by decide) (by decide)⟩
theorem d11_0 : decode prog_18_method_2_code 0 = .ok (.aload_n 0, 1) := by decide +kernel
theorem d11_1 : decode prog_18_method_2_code 1 = .ok (.invokespecial 17, 3) := by decide +kernel
theorem d11_4 : decode prog_18_method_2_code 4 = .ok (.aload_n 0, 1) := by decide +kernel
theorem d11_5 : decode prog_18_method_2_code 5 = .ok (.aload_n 1, 1) := by decide +kernel
theorem d11_6 : decode prog_18_method_2_code 6 = .ok (.putfield 22, 3) := by decide +kernel
theorem d11_9 : decode prog_18_method_2_code 9 = .ok (.aload_n 0, 1) := by decide +kernel
theorem d11_10 : decode prog_18_method_2_code 10 = .ok (.aload_n 2, 1) := by decide +kernel
theorem d11_11 : decode prog_18_method_2_code 11 = .ok (.putfield 13, 3) := by decide +kernel
theorem d11_14 : decode prog_18_method_2_code 14 = .ok (.return_, 1) := by decide +kernel
theorem pn_11 : plainName "com/example/grantline/grantline/engine/Actions" = true := by first | (simp [plainName, overriddenIn]; done) | decide +kernel
def QC11 (Z : State) (a : Addr) (ls : Addr) (ia : Addr)  (h0 : Heap) (n0 : Nat) (v : Option Value) (h : Heap) (L : List Loc) : Prop := Fr n0 L ∧ v = none ∧ Keep h0 h [a] ∧ Exa Z h a "com/example/grantline/grantline/engine/Actions" ∧ Fld Z h a "com/example/grantline/grantline/engine/Actions" "names" "Ljava/util/List;" (.ref ls) ∧ Fld Z h a "com/example/grantline/grantline/engine/Actions" "implied" "[I" (.ref ia)
theorem ef_rm11 (m : MethodId) (x0 : Addr) (x1 : Addr) (x2 : Addr) : entryFrame m #[(.ref x0), (.ref x1), (.ref x2)] 3 = mkF m 0 #[.val (.ref x0), .val (.ref x1), .val (.ref x2)] [] := by first | (simp [entryFrame, mkF, argsToLocals, Value.category]; done) | rfl
set_option maxRecDepth 65536 in
set_option maxHeartbeats 40000000 in
theorem rm11 (l : Launch) (Z : State) (a0 : Array Value) (hw : ∀ d ∈ tables_1, d.before a0 Z = true) (ws : List Jvm.Cond) (a : Addr) (ls : Addr) (ia : Addr)  (u_names u_implied : Value) (h0 : Heap) (n0 : Nat) (Z0 : n0 ≤ h0.size) (E_a : Exa Z h0 a "com/example/grantline/grantline/engine/Actions") (g_a : n0 ≤ a) (F_names_a : Fld Z h0 a "com/example/grantline/grantline/engine/Actions" "names" "Ljava/util/List;" u_names) (F_implied_a : Fld Z h0 a "com/example/grantline/grantline/engine/Actions" "implied" "[I" u_implied)  :
    MetFree l (⟨"com/example/grantline/grantline/engine/Actions", "<init>", "(Ljava/util/List;[I)V"⟩ : MethodName) (head1 (Jvm.Cond.code (⟨"com/example/grantline/grantline/engine/Actions", "<init>", "(Ljava/util/List;[I)V"⟩ : MethodName) prog_18_method_2_code 3 none :: ws) ({ frames := 1, cells := 0, slots := 0, locals := 12 } : Room)) (fun aQ U => aQ = #[(.ref a), (.ref ls), (.ref ia)] ∧ Z.Warmed39 U.vm ∧ U.heap = h0) (fun _ _ _ _ _ => True) (fun _ U o U' => ∃ vQ LQ, o = .returned vQ ∧ QC11 Z a ls ia  h0 n0 vQ U'.heap LQ ∧ FrameEnd U o U' LQ ({ frames := 1, cells := 0, slots := 0, locals := 12 } : Room).cells ({ frames := 1, cells := 0, slots := 0, locals := 12 } : Room).slots) := by
  refine MetFree.of_bodySF (plainFor_of_name pn_11) hisR ?_
  intro p e s m args below meth c s₁ Bd hml0 hP hK
  obtain ⟨rfl, hZ, hh⟩ := hP
  have hx := Bd.exec
  have hby := Bd.bytes
  have hml : c.maxLocals = 3 := hml0
  have hown : s.vm.findClass "com/example/grantline/grantline/engine/Actions" = some m.cls := findClass_of_methodNamed Bd.named
  have hnm := (name_of_methodNamed Bd.named Bd.method).1
  have X0 : Stand p l e ({ frames := 1, cells := 0, slots := 0, locals := 12 } : Room) s m #[(.ref a), (.ref ls), (.ref ia)] below meth c s₁ [] 0 0 := Stand.of_body Bd
  have e0 : s₁.heap = h0 := by rw [← hh, Bd.state]; rfl
  have NF := Fr.nil n0
  have KP : Keep h0 h0 [a] := Keep.refl h0 [a]
  refine Gl.out ?_
  refine Gl.go ?_ (fun t k => castTop (ef_rm11 m a ls ia) k)
  show Gl _ _ _ _ (s₁.setTop (mkF m 0 _ []))
  refine Gl.go ?_ (fun t k => XS.aloadN X0.here hx rfl (hb hby d11_0) rfl rfl k)
  show Gl _ _ _ _ (s₁.setTop (mkF m 1 #[.val (.ref a), .val (.ref ls), .val (.ref ia)] [(.ref a)]))
  obtain ⟨T71, X71, e71, st71⟩ := initO X0 hx hZ hown (hw _ (List.mem_of_getElem? (i := 74) rfl)) (hw _ (List.mem_of_getElem? (i := 64) rfl)) (hw _ (List.mem_of_getElem? (i := 65) rfl)) e0 (g := (mkF m 1 #[.val (.ref a), .val (.ref ls), .val (.ref ia)] [(.ref a)])) rfl (by rw [hml]; rfl) rfl (hb hby d11_1) (by decide) (W := 0) (by show 2 * 0 + _ ≤ _; exact Nat.le_of_eq rfl) (by decide)
  refine Gl.go ?_ st71
  show Gl _ _ _ _ (T71.setTop (mkF m 4 _ []))
  refine Gl.go ?_ (fun t k => XS.aloadN X71.here hx rfl (hb hby d11_4) rfl rfl k)
  show Gl _ _ _ _ (T71.setTop (mkF m 5 _ [(.ref a)]))
  refine Gl.go ?_ (fun t k => XS.aloadN X71.here hx rfl (hb hby d11_5) rfl rfl k)
  show Gl _ _ _ _ (T71.setTop (mkF m 6 #[.val (.ref a), .val (.ref ls), .val (.ref ia)] [(.ref ls), (.ref a)]))
  obtain ⟨T72, h72, X72, e72, W72, st72⟩ := putF X71 hx hZ hown (host := "") (Or.inl (hw _ (List.mem_of_getElem? (i := 75) rfl))) Via.refl e71 F_names_a E_a (Or.inr ⟨(hw _ (List.mem_of_getElem? (i := 76) rfl)), rfl, hnm⟩) (hw _ (List.mem_of_getElem? (i := 18) rfl)) (ty := (.object "java/util/List")) (by decide) rfl rfl (g := (mkF m 6 #[.val (.ref a), .val (.ref ls), .val (.ref ia)] [(.ref ls), (.ref a)])) rfl rfl (hb hby d11_6)
  replace KP := KP.wr W72 (Or.inl (List.mem_of_getElem? (i := 0) rfl))
  replace E_a := E_a.wr W72
  replace Z0 := Nat.le_trans Z0 (Keep.of_wr W72).1
  replace F_names_a := F_names_a.same W72
  replace F_implied_a := F_implied_a.other W72 (Or.inr (slot_ne (Or.inr (hw _ (List.mem_of_getElem? (i := 78) rfl))) (Or.inr (hw _ (List.mem_of_getElem? (i := 76) rfl))) (by decide) (t := (.array .int)) (t' := (.object "java/util/List")) (by decide) (by decide)))
  replace NF := Fr.snoc X72 NF g_a
  refine Gl.go ?_ st72
  show Gl _ _ _ _ (T72.setTop (mkF m 9 _ []))
  refine Gl.go ?_ (fun t k => XS.aloadN X72.here hx rfl (hb hby d11_9) rfl rfl k)
  show Gl _ _ _ _ (T72.setTop (mkF m 10 _ [(.ref a)]))
  refine Gl.go ?_ (fun t k => XS.aloadN X72.here hx rfl (hb hby d11_10) rfl rfl k)
  show Gl _ _ _ _ (T72.setTop (mkF m 11 #[.val (.ref a), .val (.ref ls), .val (.ref ia)] [(.ref ia), (.ref a)]))
  obtain ⟨T73, h73, X73, e73, W73, st73⟩ := putF X72 hx hZ hown (host := "") (Or.inl (hw _ (List.mem_of_getElem? (i := 77) rfl))) Via.refl e72 F_implied_a E_a (Or.inr ⟨(hw _ (List.mem_of_getElem? (i := 78) rfl)), rfl, hnm⟩) (hw _ (List.mem_of_getElem? (i := 18) rfl)) (ty := (.array .int)) (by decide) rfl rfl (g := (mkF m 11 #[.val (.ref a), .val (.ref ls), .val (.ref ia)] [(.ref ia), (.ref a)])) rfl rfl (hb hby d11_11)
  replace KP := KP.wr W73 (Or.inl (List.mem_of_getElem? (i := 0) rfl))
  replace E_a := E_a.wr W73
  replace Z0 := Nat.le_trans Z0 (Keep.of_wr W73).1
  replace F_names_a := F_names_a.other W73 (Or.inr (slot_ne (Or.inr (hw _ (List.mem_of_getElem? (i := 76) rfl))) (Or.inr (hw _ (List.mem_of_getElem? (i := 78) rfl))) (by decide) (t := (.object "java/util/List")) (t' := (.array .int)) (by decide) (by decide)))
  replace F_implied_a := F_implied_a.same W73
  replace NF := Fr.snoc X73 NF g_a
  refine Gl.go ?_ st73
  show Gl _ _ _ _ (T73.setTop (mkF m 14 _ []))
  obtain ⟨fs, hr, hrun, hended, hW, hsame⟩ := X73.leave (v := none) (fun _ => rfl) (BodyLoose.notSynchronized Bd)
  exact Gl.mk ⟨_, _, X73.returnOut hx Bd.returns (hb hby d11_14) hr, hrun, hended, _, _, rfl, own_cast (P := fun H v L => QC11 Z a ls ia  h0 n0 v H L) e73 ⟨NF, ⟨rfl, KP, E_a, F_names_a, F_implied_a⟩⟩, ⟨_, rfl⟩, hW, hsame.mono (by decide) (by decide)⟩
theorem d6_0 : decode jdk_45_method_1_code 0 = .ok (.aload_n 0, 1) := by decide +kernel
theorem d6_1 : decode jdk_45_method_1_code 1 = .ok (.invokespecial 1, 3) := by decide +kernel
theorem d6_4 : decode jdk_45_method_1_code 4 = .ok (.aload_n 0, 1) := by decide +kernel
theorem d6_5 : decode jdk_45_method_1_code 5 = .ok (.aload_n 1, 1) := by decide +kernel
theorem d6_6 : decode jdk_45_method_1_code 6 = .ok (.putfield 7, 3) := by decide +kernel
theorem d6_9 : decode jdk_45_method_1_code 9 = .ok (.aload_n 0, 1) := by decide +kernel
theorem d6_10 : decode jdk_45_method_1_code 10 = .ok (.iload_n 2, 1) := by decide +kernel
theorem d6_11 : decode jdk_45_method_1_code 11 = .ok (.putfield 13, 3) := by decide +kernel
theorem d6_14 : decode jdk_45_method_1_code 14 = .ok (.return_, 1) := by decide +kernel
theorem pn_6 : plainName "java/util/ImmutableCollections$ListN" = true := by first | (simp [plainName, overriddenIn]; done) | decide +kernel
def QC6 (Z : State) (a : Addr) (ea : Addr)  (h0 : Heap) (n0 : Nat) (v : Option Value) (h : Heap) (L : List Loc) : Prop := Fr n0 L ∧ v = none ∧ Keep h0 h [a] ∧ Exa Z h a "java/util/ImmutableCollections$ListN" ∧ Fld Z h a "java/util/ImmutableCollections$ListN" "elements" "[Ljava/lang/Object;" (.ref ea) ∧ Fld Z h a "java/util/ImmutableCollections$ListN" "allowNulls" "Z" (.int 0)
theorem ef_rm6 (m : MethodId) (x0 : Addr) (x1 : Addr) (x2 : Int32) : entryFrame m #[(.ref x0), (.ref x1), (.int x2)] 3 = mkF m 0 #[.val (.ref x0), .val (.ref x1), .val (.int x2)] [] := by first | (simp [entryFrame, mkF, argsToLocals, Value.category]; done) | rfl
set_option maxRecDepth 65536 in
set_option maxHeartbeats 40000000 in
theorem rm6 (l : Launch) (Z : State) (a0 : Array Value) (hw : ∀ d ∈ tables_1, d.before a0 Z = true) (ws : List Jvm.Cond) (a : Addr) (ea : Addr)  (u_elements u_allowNulls : Value) (h0 : Heap) (n0 : Nat) (Z0 : n0 ≤ h0.size) (E_a : Exa Z h0 a "java/util/ImmutableCollections$ListN") (g_a : n0 ≤ a) (F_elements_a : Fld Z h0 a "java/util/ImmutableCollections$ListN" "elements" "[Ljava/lang/Object;" u_elements) (F_allowNulls_a : Fld Z h0 a "java/util/ImmutableCollections$ListN" "allowNulls" "Z" u_allowNulls)  :
    MetFree l (⟨"java/util/ImmutableCollections$ListN", "<init>", "([Ljava/lang/Object;Z)V"⟩ : MethodName) (head1 (Jvm.Cond.code (⟨"java/util/ImmutableCollections$ListN", "<init>", "([Ljava/lang/Object;Z)V"⟩ : MethodName) jdk_45_method_1_code 3 none :: ws) ({ frames := 4, cells := 0, slots := 0, locals := 48 } : Room)) (fun aQ U => aQ = #[(.ref a), (.ref ea), (.int (0 : Int32))] ∧ Z.Warmed39 U.vm ∧ U.heap = h0) (fun _ _ _ _ _ => True) (fun _ U o U' => ∃ vQ LQ, o = .returned vQ ∧ QC6 Z a ea  h0 n0 vQ U'.heap LQ ∧ FrameEnd U o U' LQ ({ frames := 4, cells := 0, slots := 0, locals := 48 } : Room).cells ({ frames := 4, cells := 0, slots := 0, locals := 48 } : Room).slots) := by
  refine MetFree.of_bodySF (plainFor_of_name pn_6) hisR ?_
  intro p e s m args below meth c s₁ Bd hml0 hP hK
  obtain ⟨rfl, hZ, hh⟩ := hP
  have hx := Bd.exec
  have hby := Bd.bytes
  have hml : c.maxLocals = 3 := hml0
  have hown : s.vm.findClass "java/util/ImmutableCollections$ListN" = some m.cls := findClass_of_methodNamed Bd.named
  have hnm := (name_of_methodNamed Bd.named Bd.method).1
  have X0 : Stand p l e ({ frames := 4, cells := 0, slots := 0, locals := 48 } : Room) s m #[(.ref a), (.ref ea), (.int (0 : Int32))] below meth c s₁ [] 0 0 := Stand.of_body Bd
  have e0 : s₁.heap = h0 := by rw [← hh, Bd.state]; rfl
  have NF := Fr.nil n0
  have KP : Keep h0 h0 [a] := Keep.refl h0 [a]
  refine Gl.out ?_
  refine Gl.go ?_ (fun t k => castTop (ef_rm6 m a ea (0 : Int32)) k)
  show Gl _ _ _ _ (s₁.setTop (mkF m 0 _ []))
  refine Gl.go ?_ (fun t k => XS.aloadN X0.here hx rfl (hb hby d6_0) rfl rfl k)
  show Gl _ _ _ _ (s₁.setTop (mkF m 1 #[.val (.ref a), .val (.ref ea), .val (.int (0 : Int32))] [(.ref a)]))
  obtain ⟨_, _, ⟨T74, L74, k74, n74⟩, -, X74, ⟨Lc74, hQ74, l74, y74, z74⟩, st74⟩ := X0.specialBack hx (y := (⟨"java/util/ImmutableCollections$AbstractImmutableList", "<init>", "()V"⟩ : MethodName)) rfl hown (mvT hZ (hw _ (List.mem_of_getElem? (i := 45) rfl))) (mvT hZ (hw _ (List.mem_of_getElem? (i := 46) rfl))) (mvT hZ (hw _ (List.mem_of_getElem? (i := 50) rfl))) (by decide) (backOf (W := 0) (rm7 l Z a0 hw [] a h0) hZ (hw _ (List.mem_of_getElem? (i := 50) rfl)) (hw _ (List.mem_of_getElem? (i := 49) rfl)) (by decide) (by decide)) (g := (mkF m 1 #[.val (.ref a), .val (.ref ea), .val (.int (0 : Int32))] [(.ref a)])) rfl (by rw [hml]; rfl) (Steps.refl _) (a := a) (argsL := []) (rest := []) (lenOf pd_5 rfl) rfl (by show 2 * 0 + _ ≤ _; exact Nat.le_of_eq rfl) (hb hby d6_1) (fun _ _ => ⟨rfl, e0, (by decide : 0 + 0 ≤ _), (by decide : 0 + 0 ≤ _)⟩)
  dsimp only [Pt.U, Pt.locs, Pt.cells, Pt.slots] at X74 l74 y74 z74 st74 hQ74
  rw [l74, y74, z74] at X74
  clear l74 y74 z74
  obtain ⟨rfl, rfl, e74⟩ := hQ74
  replace NF := Fr.app NF (Fr.nil n0)
  refine Gl.tr ?_ st74
  show Gl _ _ _ _ (T74.setTop (mkF m 4 _ []))
  refine Gl.go ?_ (fun t k => XS.aloadN X74.here hx rfl (hb hby d6_4) rfl rfl k)
  show Gl _ _ _ _ (T74.setTop (mkF m 5 _ [(.ref a)]))
  refine Gl.go ?_ (fun t k => XS.aloadN X74.here hx rfl (hb hby d6_5) rfl rfl k)
  show Gl _ _ _ _ (T74.setTop (mkF m 6 #[.val (.ref a), .val (.ref ea), .val (.int (0 : Int32))] [(.ref ea), (.ref a)]))
  obtain ⟨T75, h75, X75, e75, W75, st75⟩ := putF X74 hx hZ hown (host := "") (Or.inl (hw _ (List.mem_of_getElem? (i := 66) rfl))) Via.refl e74 F_elements_a E_a (Or.inr ⟨(hw _ (List.mem_of_getElem? (i := 67) rfl)), rfl, hnm⟩) (hw _ (List.mem_of_getElem? (i := 39) rfl)) (ty := (.array (.object "java/lang/Object"))) (by decide) rfl rfl (g := (mkF m 6 #[.val (.ref a), .val (.ref ea), .val (.int (0 : Int32))] [(.ref ea), (.ref a)])) rfl rfl (hb hby d6_6)
  replace KP := KP.wr W75 (Or.inl (List.mem_of_getElem? (i := 0) rfl))
  replace E_a := E_a.wr W75
  replace Z0 := Nat.le_trans Z0 (Keep.of_wr W75).1
  replace F_elements_a := F_elements_a.same W75
  replace F_allowNulls_a := F_allowNulls_a.other W75 (Or.inr (slot_ne (Or.inr (hw _ (List.mem_of_getElem? (i := 69) rfl))) (Or.inr (hw _ (List.mem_of_getElem? (i := 67) rfl))) (by decide) (t := .boolean) (t' := (.array (.object "java/lang/Object"))) (by decide) (by decide)))
  replace NF := Fr.snoc X75 NF g_a
  refine Gl.go ?_ st75
  show Gl _ _ _ _ (T75.setTop (mkF m 9 _ []))
  refine Gl.go ?_ (fun t k => XS.aloadN X75.here hx rfl (hb hby d6_9) rfl rfl k)
  show Gl _ _ _ _ (T75.setTop (mkF m 10 _ [(.ref a)]))
  refine Gl.go ?_ (fun t k => XS.iloadN X75.here hx rfl (hb hby d6_10) rfl k)
  show Gl _ _ _ _ (T75.setTop (mkF m 11 #[.val (.ref a), .val (.ref ea), .val (.int (0 : Int32))] [(.int (0 : Int32)), (.ref a)]))
  obtain ⟨T76, h76, X76, e76, W76, st76⟩ := putFN X75 hx hZ hown (hw _ (List.mem_of_getElem? (i := 68) rfl)) Via.refl e75 F_allowNulls_a E_a (Or.inr ⟨(hw _ (List.mem_of_getElem? (i := 69) rfl)), rfl, hnm⟩) (hw _ (List.mem_of_getElem? (i := 39) rfl)) (ty := .boolean) (v' := .int (nar .boolean (0 : Int32))) (by decide) rfl (fits_nar_bool _) (g := (mkF m 11 #[.val (.ref a), .val (.ref ea), .val (.int (0 : Int32))] [(.int (0 : Int32)), (.ref a)])) rfl rfl (hb hby d6_11)
  replace KP := KP.wr W76 (Or.inl (List.mem_of_getElem? (i := 0) rfl))
  replace E_a := E_a.wr W76
  replace Z0 := Nat.le_trans Z0 (Keep.of_wr W76).1
  replace F_elements_a := F_elements_a.other W76 (Or.inr (slot_ne (Or.inr (hw _ (List.mem_of_getElem? (i := 67) rfl))) (Or.inr (hw _ (List.mem_of_getElem? (i := 69) rfl))) (by decide) (t := (.array (.object "java/lang/Object"))) (t' := .boolean) (by decide) (by decide)))
  replace F_allowNulls_a := F_allowNulls_a.same W76
  replace NF := Fr.snoc X76 NF g_a
  refine Gl.go ?_ st76
  show Gl _ _ _ _ (T76.setTop (mkF m 14 _ []))
  obtain ⟨fs, hr, hrun, hended, hW, hsame⟩ := X76.leave (v := none) (fun _ => rfl) (BodyLoose.notSynchronized Bd)
  exact Gl.mk ⟨_, _, X76.returnOut hx Bd.returns (hb hby d6_14) hr, hrun, hended, _, _, rfl, own_cast (P := fun H v L => QC6 Z a ea  h0 n0 v H L) e76 ⟨NF, ⟨rfl, KP, E_a, F_elements_a, F_allowNulls_a⟩⟩, ⟨_, rfl⟩, hW, hsame.mono (by decide) (by decide)⟩
theorem d19_0 : decode jdk_44_method_2_code 0 = .ok (.aload_n 0, 1) := by decide +kernel
theorem d19_1 : decode jdk_44_method_2_code 1 = .ok (.invokespecial 1, 3) := by decide +kernel
theorem d19_4 : decode jdk_44_method_2_code 4 = .ok (.aload_n 0, 1) := by decide +kernel
theorem d19_5 : decode jdk_44_method_2_code 5 = .ok (.aload_n 1, 1) := by decide +kernel
theorem d19_6 : decode jdk_44_method_2_code 6 = .ok (.invokestatic 7, 3) := by decide +kernel
theorem d19_9 : decode jdk_44_method_2_code 9 = .ok (.putfield 13, 3) := by decide +kernel
theorem d19_12 : decode jdk_44_method_2_code 12 = .ok (.aload_n 0, 1) := by decide +kernel
theorem d19_13 : decode jdk_44_method_2_code 13 = .ok (.aload_n 2, 1) := by decide +kernel
theorem d19_14 : decode jdk_44_method_2_code 14 = .ok (.invokestatic 7, 3) := by decide +kernel
theorem d19_17 : decode jdk_44_method_2_code 17 = .ok (.putfield 24, 3) := by decide +kernel
theorem d19_20 : decode jdk_44_method_2_code 20 = .ok (.return_, 1) := by decide +kernel
theorem pn_19 : plainName "java/util/ImmutableCollections$List12" = true := by first | (simp [plainName, overriddenIn]; done) | decide +kernel
def QC19 (Z : State) (a : Addr) (x0 : Addr) (x1 : Addr)  (h0 : Heap) (n0 : Nat) (v : Option Value) (h : Heap) (L : List Loc) : Prop := Fr n0 L ∧ v = none ∧ Keep h0 h [a] ∧ Exa Z h a "java/util/ImmutableCollections$List12" ∧ Fld Z h a "java/util/ImmutableCollections$List12" "e0" "Ljava/lang/Object;" (.ref x0) ∧ Fld Z h a "java/util/ImmutableCollections$List12" "e1" "Ljava/lang/Object;" (.ref x1)
theorem ef_rm19 (m : MethodId) (x0 : Addr) (x1 : Addr) (x2 : Addr) : entryFrame m #[(.ref x0), (.ref x1), (.ref x2)] 3 = mkF m 0 #[.val (.ref x0), .val (.ref x1), .val (.ref x2)] [] := by first | (simp [entryFrame, mkF, argsToLocals, Value.category]; done) | rfl
set_option maxRecDepth 65536 in
set_option maxHeartbeats 40000000 in
theorem rm19 (l : Launch) (Z : State) (a0 : Array Value) (hw : ∀ d ∈ tables_1, d.before a0 Z = true) (ws : List Jvm.Cond) (a : Addr) (x0 : Addr) (x1 : Addr)  (u_e0 u_e1 : Value) (h0 : Heap) (n0 : Nat) (Z0 : n0 ≤ h0.size) (E_a : Exa Z h0 a "java/util/ImmutableCollections$List12") (g_a : n0 ≤ a) (F_e0_a : Fld Z h0 a "java/util/ImmutableCollections$List12" "e0" "Ljava/lang/Object;" u_e0) (F_e1_a : Fld Z h0 a "java/util/ImmutableCollections$List12" "e1" "Ljava/lang/Object;" u_e1)  :
    MetFree l (⟨"java/util/ImmutableCollections$List12", "<init>", "(Ljava/lang/Object;Ljava/lang/Object;)V"⟩ : MethodName) (head1 (Jvm.Cond.code (⟨"java/util/ImmutableCollections$List12", "<init>", "(Ljava/lang/Object;Ljava/lang/Object;)V"⟩ : MethodName) jdk_44_method_2_code 3 none :: ws) ({ frames := 4, cells := 0, slots := 0, locals := 48 } : Room)) (fun aQ U => aQ = #[(.ref a), (.ref x0), (.ref x1)] ∧ Z.Warmed39 U.vm ∧ U.heap = h0) (fun _ _ _ _ _ => True) (fun _ U o U' => ∃ vQ LQ, o = .returned vQ ∧ QC19 Z a x0 x1  h0 n0 vQ U'.heap LQ ∧ FrameEnd U o U' LQ ({ frames := 4, cells := 0, slots := 0, locals := 48 } : Room).cells ({ frames := 4, cells := 0, slots := 0, locals := 48 } : Room).slots) := by
  refine MetFree.of_bodySF (plainFor_of_name pn_19) hisR ?_
  intro p e s m args below meth c s₁ Bd hml0 hP hK
  obtain ⟨rfl, hZ, hh⟩ := hP
  have hx := Bd.exec
  have hby := Bd.bytes
  have hml : c.maxLocals = 3 := hml0
  have hown : s.vm.findClass "java/util/ImmutableCollections$List12" = some m.cls := findClass_of_methodNamed Bd.named
  have hnm := (name_of_methodNamed Bd.named Bd.method).1
  have X0 : Stand p l e ({ frames := 4, cells := 0, slots := 0, locals := 48 } : Room) s m #[(.ref a), (.ref x0), (.ref x1)] below meth c s₁ [] 0 0 := Stand.of_body Bd
  have e0 : s₁.heap = h0 := by rw [← hh, Bd.state]; rfl
  have NF := Fr.nil n0
  have KP : Keep h0 h0 [a] := Keep.refl h0 [a]
  refine Gl.out ?_
  refine Gl.go ?_ (fun t k => castTop (ef_rm19 m a x0 x1) k)
  show Gl _ _ _ _ (s₁.setTop (mkF m 0 _ []))
  refine Gl.go ?_ (fun t k => XS.aloadN X0.here hx rfl (hb hby d19_0) rfl rfl k)
  show Gl _ _ _ _ (s₁.setTop (mkF m 1 #[.val (.ref a), .val (.ref x0), .val (.ref x1)] [(.ref a)]))
  obtain ⟨_, _, ⟨T77, L77, k77, n77⟩, -, X77, ⟨Lc77, hQ77, l77, y77, z77⟩, st77⟩ := X0.specialBack hx (y := (⟨"java/util/ImmutableCollections$AbstractImmutableList", "<init>", "()V"⟩ : MethodName)) rfl hown (mvT hZ (hw _ (List.mem_of_getElem? (i := 137) rfl))) (mvT hZ (hw _ (List.mem_of_getElem? (i := 46) rfl))) (mvT hZ (hw _ (List.mem_of_getElem? (i := 50) rfl))) (by decide) (backOf (W := 0) (rm7 l Z a0 hw [] a h0) hZ (hw _ (List.mem_of_getElem? (i := 50) rfl)) (hw _ (List.mem_of_getElem? (i := 49) rfl)) (by decide) (by decide)) (g := (mkF m 1 #[.val (.ref a), .val (.ref x0), .val (.ref x1)] [(.ref a)])) rfl (by rw [hml]; rfl) (Steps.refl _) (a := a) (argsL := []) (rest := []) (lenOf pd_5 rfl) rfl (by show 2 * 0 + _ ≤ _; exact Nat.le_of_eq rfl) (hb hby d19_1) (fun _ _ => ⟨rfl, e0, (by decide : 0 + 0 ≤ _), (by decide : 0 + 0 ≤ _)⟩)
  dsimp only [Pt.U, Pt.locs, Pt.cells, Pt.slots] at X77 l77 y77 z77 st77 hQ77
  rw [l77, y77, z77] at X77
  clear l77 y77 z77
  obtain ⟨rfl, rfl, e77⟩ := hQ77
  replace NF := Fr.app NF (Fr.nil n0)
  refine Gl.tr ?_ st77
  show Gl _ _ _ _ (T77.setTop (mkF m 4 _ []))
  refine Gl.go ?_ (fun t k => XS.aloadN X77.here hx rfl (hb hby d19_4) rfl rfl k)
  show Gl _ _ _ _ (T77.setTop (mkF m 5 _ [(.ref a)]))
  refine Gl.go ?_ (fun t k => XS.aloadN X77.here hx rfl (hb hby d19_5) rfl rfl k)
  show Gl _ _ _ _ (T77.setTop (mkF m 6 #[.val (.ref a), .val (.ref x0), .val (.ref x1)] [(.ref x0), (.ref a)]))
  obtain ⟨_, _, ⟨T78, L78, k78, n78⟩, -, X78, ⟨Lc78, hQ78, l78, y78, z78⟩, st78⟩ := Jvm.LawKit.callS X77 hx (y := (⟨"java/util/Objects", "requireNonNull", "(Ljava/lang/Object;)Ljava/lang/Object;"⟩ : MethodName)) hown (mvT hZ (hw _ (List.mem_of_getElem? (i := 141) rfl))) (mvT hZ (hw _ (List.mem_of_getElem? (i := 34) rfl))) (mvT hZ (hw _ (List.mem_of_getElem? (i := 35) rfl))) (mvT hZ (hw _ (List.mem_of_getElem? (i := 36) rfl))) (by decide) (backOf (W := 1) (rm5 l Z a0 hw [] x0 h0) hZ (hw _ (List.mem_of_getElem? (i := 36) rfl)) (hw _ (List.mem_of_getElem? (i := 35) rfl)) (by decide) (by decide)) (g := (mkF m 6 #[.val (.ref a), .val (.ref x0), .val (.ref x1)] [(.ref x0), (.ref a)])) rfl (by rw [hml]; rfl) (argsL := [(.ref x0)]) (rest := [(.ref a)]) (lenOf pd_2 rfl) rfl (by show 2 * 0 + _ ≤ _; exact Nat.le_of_eq rfl) (hb hby d19_6) (fun _ _ => ⟨rfl, e77, (by decide : 0 + 0 ≤ _), (by decide : 0 + 0 ≤ _)⟩)
  dsimp only [Pt.U, Pt.locs, Pt.cells, Pt.slots] at X78 l78 y78 z78 st78 hQ78
  rw [l78, y78, z78] at X78
  clear l78 y78 z78
  obtain ⟨rfl, rfl, e78⟩ := hQ78
  replace NF := Fr.app NF (Fr.nil n0)
  refine Gl.go ?_ st78
  show Gl _ _ _ _ (T78.setTop (mkF m 9 #[.val (.ref a), .val (.ref x0), .val (.ref x1)] [(.ref x0), (.ref a)]))
  obtain ⟨T79, h79, X79, e79, W79, st79⟩ := putF X78 hx hZ hown (host := "") (Or.inl (hw _ (List.mem_of_getElem? (i := 142) rfl))) Via.refl e78 F_e0_a E_a (Or.inr ⟨(hw _ (List.mem_of_getElem? (i := 143) rfl)), rfl, hnm⟩) (hw _ (List.mem_of_getElem? (i := 131) rfl)) (ty := (.object "java/lang/Object")) (by decide) rfl rfl (g := (mkF m 9 #[.val (.ref a), .val (.ref x0), .val (.ref x1)] [(.ref x0), (.ref a)])) rfl rfl (hb hby d19_9)
  replace KP := KP.wr W79 (Or.inl (List.mem_of_getElem? (i := 0) rfl))
  replace E_a := E_a.wr W79
  replace Z0 := Nat.le_trans Z0 (Keep.of_wr W79).1
  replace F_e0_a := F_e0_a.same W79
  replace F_e1_a := F_e1_a.other W79 (Or.inr (slot_ne (Or.inr (hw _ (List.mem_of_getElem? (i := 145) rfl))) (Or.inr (hw _ (List.mem_of_getElem? (i := 143) rfl))) (by decide) (t := (.object "java/lang/Object")) (t' := (.object "java/lang/Object")) (by decide) (by decide)))
  replace NF := Fr.snoc X79 NF g_a
  refine Gl.go ?_ st79
  show Gl _ _ _ _ (T79.setTop (mkF m 12 _ []))
  refine Gl.go ?_ (fun t k => XS.aloadN X79.here hx rfl (hb hby d19_12) rfl rfl k)
  show Gl _ _ _ _ (T79.setTop (mkF m 13 _ [(.ref a)]))
  refine Gl.go ?_ (fun t k => XS.aloadN X79.here hx rfl (hb hby d19_13) rfl rfl k)
  show Gl _ _ _ _ (T79.setTop (mkF m 14 #[.val (.ref a), .val (.ref x0), .val (.ref x1)] [(.ref x1), (.ref a)]))
  obtain ⟨_, _, ⟨T80, L80, k80, n80⟩, -, X80, ⟨Lc80, hQ80, l80, y80, z80⟩, st80⟩ := Jvm.LawKit.callS X79 hx (y := (⟨"java/util/Objects", "requireNonNull", "(Ljava/lang/Object;)Ljava/lang/Object;"⟩ : MethodName)) hown (mvT hZ (hw _ (List.mem_of_getElem? (i := 141) rfl))) (mvT hZ (hw _ (List.mem_of_getElem? (i := 34) rfl))) (mvT hZ (hw _ (List.mem_of_getElem? (i := 35) rfl))) (mvT hZ (hw _ (List.mem_of_getElem? (i := 36) rfl))) (by decide) (backOf (W := 1) (rm5 l Z a0 hw [] x1 h79) hZ (hw _ (List.mem_of_getElem? (i := 36) rfl)) (hw _ (List.mem_of_getElem? (i := 35) rfl)) (by decide) (by decide)) (g := (mkF m 14 #[.val (.ref a), .val (.ref x0), .val (.ref x1)] [(.ref x1), (.ref a)])) rfl (by rw [hml]; rfl) (argsL := [(.ref x1)]) (rest := [(.ref a)]) (lenOf pd_2 rfl) rfl (by show 2 * 0 + _ ≤ _; exact Nat.le_of_eq rfl) (hb hby d19_14) (fun _ _ => ⟨rfl, e79, (by decide : 0 + 0 ≤ _), (by decide : 0 + 0 ≤ _)⟩)
  dsimp only [Pt.U, Pt.locs, Pt.cells, Pt.slots] at X80 l80 y80 z80 st80 hQ80
  rw [l80, y80, z80] at X80
  clear l80 y80 z80
  obtain ⟨rfl, rfl, e80⟩ := hQ80
  replace NF := Fr.app NF (Fr.nil n0)
  refine Gl.go ?_ st80
  show Gl _ _ _ _ (T80.setTop (mkF m 17 #[.val (.ref a), .val (.ref x0), .val (.ref x1)] [(.ref x1), (.ref a)]))
  obtain ⟨T81, h81, X81, e81, W81, st81⟩ := putF X80 hx hZ hown (host := "") (Or.inl (hw _ (List.mem_of_getElem? (i := 144) rfl))) Via.refl e80 F_e1_a E_a (Or.inr ⟨(hw _ (List.mem_of_getElem? (i := 145) rfl)), rfl, hnm⟩) (hw _ (List.mem_of_getElem? (i := 131) rfl)) (ty := (.object "java/lang/Object")) (by decide) rfl rfl (g := (mkF m 17 #[.val (.ref a), .val (.ref x0), .val (.ref x1)] [(.ref x1), (.ref a)])) rfl rfl (hb hby d19_17)
  replace KP := KP.wr W81 (Or.inl (List.mem_of_getElem? (i := 0) rfl))
  replace E_a := E_a.wr W81
  replace Z0 := Nat.le_trans Z0 (Keep.of_wr W81).1
  replace F_e0_a := F_e0_a.other W81 (Or.inr (slot_ne (Or.inr (hw _ (List.mem_of_getElem? (i := 143) rfl))) (Or.inr (hw _ (List.mem_of_getElem? (i := 145) rfl))) (by decide) (t := (.object "java/lang/Object")) (t' := (.object "java/lang/Object")) (by decide) (by decide)))
  replace F_e1_a := F_e1_a.same W81
  replace NF := Fr.snoc X81 NF g_a
  refine Gl.go ?_ st81
  show Gl _ _ _ _ (T81.setTop (mkF m 20 _ []))
  obtain ⟨fs, hr, hrun, hended, hW, hsame⟩ := X81.leave (v := none) (fun _ => rfl) (BodyLoose.notSynchronized Bd)
  exact Gl.mk ⟨_, _, X81.returnOut hx Bd.returns (hb hby d19_20) hr, hrun, hended, _, _, rfl, own_cast (P := fun H v L => QC19 Z a x0 x1  h0 n0 v H L) e81 ⟨NF, ⟨rfl, KP, E_a, F_e0_a, F_e1_a⟩⟩, ⟨_, rfl⟩, hW, hsame.mono (by decide) (by decide)⟩
theorem d21_0 : decode jdk_44_method_1_code 0 = .ok (.aload_n 0, 1) := by decide +kernel
theorem d21_1 : decode jdk_44_method_1_code 1 = .ok (.invokespecial 1, 3) := by decide +kernel
theorem d21_4 : decode jdk_44_method_1_code 4 = .ok (.aload_n 0, 1) := by decide +kernel
theorem d21_5 : decode jdk_44_method_1_code 5 = .ok (.aload_n 1, 1) := by decide +kernel
theorem d21_6 : decode jdk_44_method_1_code 6 = .ok (.invokestatic 7, 3) := by decide +kernel
theorem d21_9 : decode jdk_44_method_1_code 9 = .ok (.putfield 13, 3) := by decide +kernel
theorem d21_12 : decode jdk_44_method_1_code 12 = .ok (.aload_n 0, 1) := by decide +kernel
theorem d21_13 : decode jdk_44_method_1_code 13 = .ok (.getstatic 19, 3) := by decide +kernel
theorem d21_16 : decode jdk_44_method_1_code 16 = .ok (.putfield 24, 3) := by decide +kernel
theorem d21_19 : decode jdk_44_method_1_code 19 = .ok (.return_, 1) := by decide +kernel
theorem pn_21 : plainName "java/util/ImmutableCollections$List12" = true := by first | (simp [plainName, overriddenIn]; done) | decide +kernel
def QC21 (Z : State) (a : Addr) (x0 : Addr) (em : Addr) (h0 : Heap) (n0 : Nat) (v : Option Value) (h : Heap) (L : List Loc) : Prop := Fr n0 L ∧ v = none ∧ Keep h0 h [a] ∧ Exa Z h a "java/util/ImmutableCollections$List12" ∧ Fld Z h a "java/util/ImmutableCollections$List12" "e0" "Ljava/lang/Object;" (.ref x0) ∧ Fld Z h a "java/util/ImmutableCollections$List12" "e1" "Ljava/lang/Object;" (.ref em)
theorem ef_rm21 (m : MethodId) (x0 : Addr) (x1 : Addr) : entryFrame m #[(.ref x0), (.ref x1)] 2 = mkF m 0 #[.val (.ref x0), .val (.ref x1)] [] := by first | (simp [entryFrame, mkF, argsToLocals, Value.category]; done) | rfl
set_option maxRecDepth 65536 in
set_option maxHeartbeats 40000000 in
theorem rm21 (l : Launch) (Z : State) (a0 : Array Value) (hw : ∀ d ∈ tables_1, d.before a0 Z = true) (ws : List Jvm.Cond) (a : Addr) (x0 : Addr) (em : Addr) (u_e0 u_e1 : Value) (h0 : Heap) (n0 : Nat) (Z0 : n0 ≤ h0.size) (E_a : Exa Z h0 a "java/util/ImmutableCollections$List12") (g_a : n0 ≤ a) (F_e0_a : Fld Z h0 a "java/util/ImmutableCollections$List12" "e0" "Ljava/lang/Object;" u_e0) (F_e1_a : Fld Z h0 a "java/util/ImmutableCollections$List12" "e1" "Ljava/lang/Object;" u_e1) (S_EM : Sta Z h0 "java/util/ImmutableCollections" "EMPTY" "Ljava/lang/Object;" (.ref em)) :
    MetFree l (⟨"java/util/ImmutableCollections$List12", "<init>", "(Ljava/lang/Object;)V"⟩ : MethodName) (head1 (Jvm.Cond.code (⟨"java/util/ImmutableCollections$List12", "<init>", "(Ljava/lang/Object;)V"⟩ : MethodName) jdk_44_method_1_code 2 none :: ws) ({ frames := 4, cells := 0, slots := 0, locals := 48 } : Room)) (fun aQ U => aQ = #[(.ref a), (.ref x0)] ∧ Z.Warmed39 U.vm ∧ U.heap = h0) (fun _ _ _ _ _ => True) (fun _ U o U' => ∃ vQ LQ, o = .returned vQ ∧ QC21 Z a x0 em h0 n0 vQ U'.heap LQ ∧ FrameEnd U o U' LQ ({ frames := 4, cells := 0, slots := 0, locals := 48 } : Room).cells ({ frames := 4, cells := 0, slots := 0, locals := 48 } : Room).slots) := by
  refine MetFree.of_bodySF (plainFor_of_name pn_21) hisR ?_
  intro p e s m args below meth c s₁ Bd hml0 hP hK
  obtain ⟨rfl, hZ, hh⟩ := hP
  have hx := Bd.exec
  have hby := Bd.bytes
  have hml : c.maxLocals = 2 := hml0
  have hown : s.vm.findClass "java/util/ImmutableCollections$List12" = some m.cls := findClass_of_methodNamed Bd.named
  have hnm := (name_of_methodNamed Bd.named Bd.method).1
  have X0 : Stand p l e ({ frames := 4, cells := 0, slots := 0, locals := 48 } : Room) s m #[(.ref a), (.ref x0)] below meth c s₁ [] 0 0 := Stand.of_body Bd
  have e0 : s₁.heap = h0 := by rw [← hh, Bd.state]; rfl
  have NF := Fr.nil n0
  have KP : Keep h0 h0 [a] := Keep.refl h0 [a]
  refine Gl.out ?_
  refine Gl.go ?_ (fun t k => castTop (ef_rm21 m a x0) k)
  show Gl _ _ _ _ (s₁.setTop (mkF m 0 _ []))
  refine Gl.go ?_ (fun t k => XS.aloadN X0.here hx rfl (hb hby d21_0) rfl rfl k)
  show Gl _ _ _ _ (s₁.setTop (mkF m 1 #[.val (.ref a), .val (.ref x0)] [(.ref a)]))
  obtain ⟨_, _, ⟨T82, L82, k82, n82⟩, -, X82, ⟨Lc82, hQ82, l82, y82, z82⟩, st82⟩ := X0.specialBack hx (y := (⟨"java/util/ImmutableCollections$AbstractImmutableList", "<init>", "()V"⟩ : MethodName)) rfl hown (mvT hZ (hw _ (List.mem_of_getElem? (i := 137) rfl))) (mvT hZ (hw _ (List.mem_of_getElem? (i := 46) rfl))) (mvT hZ (hw _ (List.mem_of_getElem? (i := 50) rfl))) (by decide) (backOf (W := 0) (rm7 l Z a0 hw [] a h0) hZ (hw _ (List.mem_of_getElem? (i := 50) rfl)) (hw _ (List.mem_of_getElem? (i := 49) rfl)) (by decide) (by decide)) (g := (mkF m 1 #[.val (.ref a), .val (.ref x0)] [(.ref a)])) rfl (by rw [hml]; rfl) (Steps.refl _) (a := a) (argsL := []) (rest := []) (lenOf pd_5 rfl) rfl (by show 2 * 0 + _ ≤ _; exact Nat.le_of_eq rfl) (hb hby d21_1) (fun _ _ => ⟨rfl, e0, (by decide : 0 + 0 ≤ _), (by decide : 0 + 0 ≤ _)⟩)
  dsimp only [Pt.U, Pt.locs, Pt.cells, Pt.slots] at X82 l82 y82 z82 st82 hQ82
  rw [l82, y82, z82] at X82
  clear l82 y82 z82
  obtain ⟨rfl, rfl, e82⟩ := hQ82
  replace NF := Fr.app NF (Fr.nil n0)
  refine Gl.tr ?_ st82
  show Gl _ _ _ _ (T82.setTop (mkF m 4 _ []))
  refine Gl.go ?_ (fun t k => XS.aloadN X82.here hx rfl (hb hby d21_4) rfl rfl k)
  show Gl _ _ _ _ (T82.setTop (mkF m 5 _ [(.ref a)]))
  refine Gl.go ?_ (fun t k => XS.aloadN X82.here hx rfl (hb hby d21_5) rfl rfl k)
  show Gl _ _ _ _ (T82.setTop (mkF m 6 #[.val (.ref a), .val (.ref x0)] [(.ref x0), (.ref a)]))
  obtain ⟨_, _, ⟨T83, L83, k83, n83⟩, -, X83, ⟨Lc83, hQ83, l83, y83, z83⟩, st83⟩ := Jvm.LawKit.callS X82 hx (y := (⟨"java/util/Objects", "requireNonNull", "(Ljava/lang/Object;)Ljava/lang/Object;"⟩ : MethodName)) hown (mvT hZ (hw _ (List.mem_of_getElem? (i := 141) rfl))) (mvT hZ (hw _ (List.mem_of_getElem? (i := 34) rfl))) (mvT hZ (hw _ (List.mem_of_getElem? (i := 35) rfl))) (mvT hZ (hw _ (List.mem_of_getElem? (i := 36) rfl))) (by decide) (backOf (W := 1) (rm5 l Z a0 hw [] x0 h0) hZ (hw _ (List.mem_of_getElem? (i := 36) rfl)) (hw _ (List.mem_of_getElem? (i := 35) rfl)) (by decide) (by decide)) (g := (mkF m 6 #[.val (.ref a), .val (.ref x0)] [(.ref x0), (.ref a)])) rfl (by rw [hml]; rfl) (argsL := [(.ref x0)]) (rest := [(.ref a)]) (lenOf pd_2 rfl) rfl (by show 2 * 0 + _ ≤ _; exact Nat.le_of_eq rfl) (hb hby d21_6) (fun _ _ => ⟨rfl, e82, (by decide : 0 + 0 ≤ _), (by decide : 0 + 0 ≤ _)⟩)
  dsimp only [Pt.U, Pt.locs, Pt.cells, Pt.slots] at X83 l83 y83 z83 st83 hQ83
  rw [l83, y83, z83] at X83
  clear l83 y83 z83
  obtain ⟨rfl, rfl, e83⟩ := hQ83
  replace NF := Fr.app NF (Fr.nil n0)
  refine Gl.go ?_ st83
  show Gl _ _ _ _ (T83.setTop (mkF m 9 #[.val (.ref a), .val (.ref x0)] [(.ref x0), (.ref a)]))
  obtain ⟨T84, h84, X84, e84, W84, st84⟩ := putF X83 hx hZ hown (host := "") (Or.inl (hw _ (List.mem_of_getElem? (i := 142) rfl))) Via.refl e83 F_e0_a E_a (Or.inr ⟨(hw _ (List.mem_of_getElem? (i := 143) rfl)), rfl, hnm⟩) (hw _ (List.mem_of_getElem? (i := 131) rfl)) (ty := (.object "java/lang/Object")) (by decide) rfl rfl (g := (mkF m 9 #[.val (.ref a), .val (.ref x0)] [(.ref x0), (.ref a)])) rfl rfl (hb hby d21_9)
  replace KP := KP.wr W84 (Or.inl (List.mem_of_getElem? (i := 0) rfl))
  replace E_a := E_a.wr W84
  replace S_EM := S_EM.wr W84
  replace Z0 := Nat.le_trans Z0 (Keep.of_wr W84).1
  replace F_e0_a := F_e0_a.same W84
  replace F_e1_a := F_e1_a.other W84 (Or.inr (slot_ne (Or.inr (hw _ (List.mem_of_getElem? (i := 145) rfl))) (Or.inr (hw _ (List.mem_of_getElem? (i := 143) rfl))) (by decide) (t := (.object "java/lang/Object")) (t' := (.object "java/lang/Object")) (by decide) (by decide)))
  replace NF := Fr.snoc X84 NF g_a
  refine Gl.go ?_ st84
  show Gl _ _ _ _ (T84.setTop (mkF m 12 _ []))
  refine Gl.go ?_ (fun t k => XS.aloadN X84.here hx rfl (hb hby d21_12) rfl rfl k)
  show Gl _ _ _ _ (T84.setTop (mkF m 13 #[.val (.ref a), .val (.ref x0)] [(.ref a)]))
  obtain ⟨T85, X85, e85, st85⟩ := getS2 X84 hx hZ hown (Or.inr (hw _ (List.mem_of_getElem? (i := 153) rfl))) Via.refl e84 S_EM (g := (mkF m 13 #[.val (.ref a), .val (.ref x0)] [(.ref a)])) rfl (hb hby d21_13)
  refine Gl.go ?_ st85
  show Gl _ _ _ _ (T85.setTop (mkF m 16 #[.val (.ref a), .val (.ref x0)] [(.ref em), (.ref a)]))
  obtain ⟨T86, h86, X86, e86, W86, st86⟩ := putF X85 hx hZ hown (host := "") (Or.inl (hw _ (List.mem_of_getElem? (i := 144) rfl))) Via.refl e85 F_e1_a E_a (Or.inr ⟨(hw _ (List.mem_of_getElem? (i := 145) rfl)), rfl, hnm⟩) (hw _ (List.mem_of_getElem? (i := 131) rfl)) (ty := (.object "java/lang/Object")) (by decide) rfl rfl (g := (mkF m 16 #[.val (.ref a), .val (.ref x0)] [(.ref em), (.ref a)])) rfl rfl (hb hby d21_16)
  replace KP := KP.wr W86 (Or.inl (List.mem_of_getElem? (i := 0) rfl))
  replace E_a := E_a.wr W86
  replace S_EM := S_EM.wr W86
  replace Z0 := Nat.le_trans Z0 (Keep.of_wr W86).1
  replace F_e0_a := F_e0_a.other W86 (Or.inr (slot_ne (Or.inr (hw _ (List.mem_of_getElem? (i := 143) rfl))) (Or.inr (hw _ (List.mem_of_getElem? (i := 145) rfl))) (by decide) (t := (.object "java/lang/Object")) (t' := (.object "java/lang/Object")) (by decide) (by decide)))
  replace F_e1_a := F_e1_a.same W86
  replace NF := Fr.snoc X86 NF g_a
  refine Gl.go ?_ st86
  show Gl _ _ _ _ (T86.setTop (mkF m 19 _ []))
  obtain ⟨fs, hr, hrun, hended, hW, hsame⟩ := X86.leave (v := none) (fun _ => rfl) (BodyLoose.notSynchronized Bd)
  exact Gl.mk ⟨_, _, X86.returnOut hx Bd.returns (hb hby d21_19) hr, hrun, hended, _, _, rfl, own_cast (P := fun H v L => QC21 Z a x0 em h0 n0 v H L) e86 ⟨NF, ⟨rfl, KP, E_a, F_e0_a, F_e1_a⟩⟩, ⟨_, rfl⟩, hW, hsame.mono (by decide) (by decide)⟩
/-- .. and where its cells lie -/
def LKB (Z : State) (h : Heap) (lo hi : Nat) (ls : Addr) (n : Nat) (A : Nat → Addr) : Prop :=
  (n ≤ 2 ∧ (1 ≤ n → (lo ≤ ls ∧ ls < hi) ∧ Exa Z h ls "java/util/ImmutableCollections$List12" ∧ Fld Z h ls "java/util/ImmutableCollections$List12" "e0" "Ljava/lang/Object;" (.ref (A 0))) ∧ (n = 2 → Fld Z h ls "java/util/ImmutableCollections$List12" "e1" "Ljava/lang/Object;" (.ref (A 1)))) ∨
  (3 ≤ n ∧ n ≤ 5 ∧ (lo ≤ ls ∧ ls < hi) ∧ Exa Z h ls "java/util/ImmutableCollections$ListN" ∧ Fld Z h ls "java/util/ImmutableCollections$ListN" "allowNulls" "Z" (.int 0) ∧ ∃ ea, (lo ≤ ea ∧ ea < hi) ∧ Fld Z h ls "java/util/ImmutableCollections$ListN" "elements" "[Ljava/lang/Object;" (.ref ea) ∧ RA Z h ea (.object "java/lang/Object") (Int32.ofNat n) A)
theorem LKB.lk {Z : State} {h : Heap} {lo hi : Nat} {ls : Addr} {n : Nat} {A : Nat → Addr} (K : LKB Z h lo hi ls n A) : LK Z h ls n A := by
  rcases K with ⟨h1, h2, h3⟩ | ⟨h1, h2, -, h3, h4, ea, -, h5, h6⟩
  · exact Or.inl ⟨h1, fun q => (h2 q).2, h3⟩
  · exact Or.inr ⟨h1, h2, h3, h4, ea, h5, h6⟩
theorem LKB.ext {Z : State} {h h' : Heap} {lo hi : Nat} {ls : Addr} {n : Nat} {A : Nat → Addr} (K : LKB Z h lo hi ls n A) (E : Ext h h') : LKB Z h' lo hi ls n A := by
  rcases K with ⟨h1, h2, h3⟩ | ⟨h1, h2, b, h3, h4, ea, b', h5, h6⟩
  · exact Or.inl ⟨h1, fun q => ⟨(h2 q).1, (h2 q).2.1.ext E, (h2 q).2.2.ext E⟩, fun q => (h3 q).ext E⟩
  · exact Or.inr ⟨h1, h2, b, h3.ext E, h4.ext E, ea, b', h5.ext E, h6.ext E⟩
theorem LK.ext {Z : State} {h h' : Heap} {ls : Addr} {n : Nat} {A : Nat → Addr} (K : LK Z h ls n A) (E : Ext h h') : LK Z h' ls n A := by
  rcases K with ⟨h1, h2, h3⟩ | ⟨h1, h2, h3, h4, ea, h5, h6⟩
  · exact Or.inl ⟨h1, fun q => ⟨(h2 q).1.ext E, (h2 q).2.ext E⟩, fun q => (h3 q).ext E⟩
  · exact Or.inr ⟨h1, h2, h3.ext E, h4.ext E, ea, h5.ext E, h6.ext E⟩
theorem LKB.keep {Z : State} {h h' : Heap} {lo hi : Nat} {ls a : Addr} {n : Nat} {A : Nat → Addr} (K : LKB Z h lo hi ls n A) (E : Keep h h' [a]) (q : a < lo ∨ hi ≤ a) : LKB Z h' lo hi ls n A := by
  have nin : ∀ y : Addr, lo ≤ y ∧ y < hi → y ∉ [a] := fun y b hm => by have e := List.mem_singleton.mp hm; have b1 := b.1; have b2 := b.2; rw [e] at b1 b2; rcases q with q | q <;> exact absurd q (by first | exact Nat.not_lt.mpr b1 | exact Nat.not_le.mpr b2)
  rcases K with ⟨h1, h2, h3⟩ | ⟨h1, h2, b, h3, h4, ea, b', h5, h6⟩
  · exact Or.inl ⟨h1, fun q => ⟨(h2 q).1, (h2 q).2.1.keep E, (h2 q).2.2.keep E (nin _ (h2 q).1)⟩, fun q => (h3 q).keep E (nin _ (h2 (by omega)).1)⟩
  · exact Or.inr ⟨h1, h2, b, h3.keep E, h4.keep E (nin _ b), ea, b', h5.keep E (nin _ b), h6.keep E (nin _ b')⟩
theorem own_lt0 {P : Nat → Prop}  : ∀ j, j < 0 → P j := fun j hj => by
  exact absurd hj (Nat.not_lt_zero j)
theorem own_lt1 {P : Nat → Prop} (h0 : P 0) : ∀ j, j < 1 → P j := fun j hj => by
  obtain rfl : j = 0 := by omega
  exact h0
theorem own_lt2 {P : Nat → Prop} (h0 : P 0) (h1 : P 1) : ∀ j, j < 2 → P j := fun j hj => by
  obtain rfl | rfl : j = 0 ∨ j = 1 := by omega
  · exact h0
  · exact h1
theorem own_lt3 {P : Nat → Prop} (h0 : P 0) (h1 : P 1) (h2 : P 2) : ∀ j, j < 3 → P j := fun j hj => by
  obtain rfl | rfl | rfl : j = 0 ∨ j = 1 ∨ j = 2 := by omega
  · exact h0
  · exact h1
  · exact h2
theorem own_lt4 {P : Nat → Prop} (h0 : P 0) (h1 : P 1) (h2 : P 2) (h3 : P 3) : ∀ j, j < 4 → P j := fun j hj => by
  obtain rfl | rfl | rfl | rfl : j = 0 ∨ j = 1 ∨ j = 2 ∨ j = 3 := by omega
  · exact h0
  · exact h1
  · exact h2
  · exact h3
theorem own_lt5 {P : Nat → Prop} (h0 : P 0) (h1 : P 1) (h2 : P 2) (h3 : P 3) (h4 : P 4) : ∀ j, j < 5 → P j := fun j hj => by
  obtain rfl | rfl | rfl | rfl | rfl : j = 0 ∨ j = 1 ∨ j = 2 ∨ j = 3 ∨ j = 4 := by omega
  · exact h0
  · exact h1
  · exact h2
  · exact h3
  · exact h4
def QLO (Z : State) (n : Nat) (A : Nat → Addr) (h0 : Heap) (n0 : Nat) (v : Option Value) (h : Heap) (L : List Loc) : Prop := Fr n0 L ∧ ∃ ls, v = some (.ref ls) ∧ Ext h0 h ∧ LKB Z h h0.size h.size ls n A
theorem d4_0 : decode jdk_56_method_4_code 0 = .ok (.aload_n 0, 1) := by decide +kernel
theorem d4_1 : decode jdk_56_method_4_code 1 = .ok (.arraylength, 1) := by decide +kernel
theorem d4_2 : decode jdk_56_method_4_code 2 = .ok (.anewarray 2, 3) := by decide +kernel
theorem d4_5 : decode jdk_56_method_4_code 5 = .ok (.astore_n 1, 1) := by decide +kernel
theorem d4_6 : decode jdk_56_method_4_code 6 = .ok (.iconst 0, 1) := by decide +kernel
theorem d4_7 : decode jdk_56_method_4_code 7 = .ok (.istore_n 2, 1) := by decide +kernel
theorem d4_8 : decode jdk_56_method_4_code 8 = .ok (.iload_n 2, 1) := by decide +kernel
theorem d4_9 : decode jdk_56_method_4_code 9 = .ok (.aload_n 0, 1) := by decide +kernel
theorem d4_10 : decode jdk_56_method_4_code 10 = .ok (.arraylength, 1) := by decide +kernel
theorem d4_11 : decode jdk_56_method_4_code 11 = .ok (.if_icmp .ge 18, 3) := by decide +kernel
theorem d4_14 : decode jdk_56_method_4_code 14 = .ok (.aload_n 1, 1) := by decide +kernel
theorem d4_15 : decode jdk_56_method_4_code 15 = .ok (.iload_n 2, 1) := by decide +kernel
theorem d4_16 : decode jdk_56_method_4_code 16 = .ok (.aload_n 0, 1) := by decide +kernel
theorem d4_17 : decode jdk_56_method_4_code 17 = .ok (.iload_n 2, 1) := by decide +kernel
theorem d4_18 : decode jdk_56_method_4_code 18 = .ok (.aaload, 1) := by decide +kernel
theorem d4_19 : decode jdk_56_method_4_code 19 = .ok (.invokestatic 37, 3) := by decide +kernel
theorem d4_22 : decode jdk_56_method_4_code 22 = .ok (.aastore, 1) := by decide +kernel
theorem d4_23 : decode jdk_56_method_4_code 23 = .ok (.iinc 2 1, 3) := by decide +kernel
theorem d4_26 : decode jdk_56_method_4_code 26 = .ok (.goto (-18), 3) := by decide +kernel
theorem d4_29 : decode jdk_56_method_4_code 29 = .ok (.new 12, 3) := by decide +kernel
theorem d4_32 : decode jdk_56_method_4_code 32 = .ok (.dup, 1) := by decide +kernel
theorem d4_33 : decode jdk_56_method_4_code 33 = .ok (.aload_n 1, 1) := by decide +kernel
theorem d4_34 : decode jdk_56_method_4_code 34 = .ok (.iconst 0, 1) := by decide +kernel
theorem d4_35 : decode jdk_56_method_4_code 35 = .ok (.invokespecial 43, 3) := by decide +kernel
theorem d4_38 : decode jdk_56_method_4_code 38 = .ok (.areturn, 1) := by decide +kernel
theorem pn_4 : plainName "java/util/ImmutableCollections" = true := by first | (simp [plainName, overriddenIn]; done) | decide +kernel
theorem pd_6 : parseMethodDescriptor "([Ljava/lang/Object;Z)V" = some ⟨[(.array (.object "java/lang/Object")), .boolean], none⟩ := by decide +kernel
theorem ef_rm_lfa_3 (m : MethodId) (x0 : Addr) : entryFrame m #[(.ref x0)] 3 = mkF m 0 #[.val (.ref x0), .unset, .unset] [] := by first | (simp [entryFrame, mkF, argsToLocals, Value.category]; done) | rfl
set_option maxRecDepth 65536 in
set_option maxHeartbeats 40000000 in
theorem rm_lfa_3 (l : Launch) (Z : State) (a0 : Array Value) (hw : ∀ d ∈ tables_1, d.before a0 Z = true) (ws : List Jvm.Cond) (ns : Addr) (A : Nat → Addr) (h0 : Heap) (n0 : Nat) (Z0 : n0 ≤ h0.size) (hNS : RA Z h0 ns (.object "java/lang/String") (3 : Int32) A) (hE : ∀ i, i < 3 → Exa Z h0 (A i) "java/lang/String") :
    MetFree l (⟨"java/util/ImmutableCollections", "listFromArray", "([Ljava/lang/Object;)Ljava/util/List;"⟩ : MethodName) (head1 (Jvm.Cond.code (⟨"java/util/ImmutableCollections", "listFromArray", "([Ljava/lang/Object;)Ljava/util/List;"⟩ : MethodName) jdk_56_method_4_code 3 (some (.object "java/util/List")) :: ws) ({ frames := 5, cells := 2, slots := 5, locals := 63 } : Room)) (fun aQ U => aQ = #[(.ref ns)] ∧ Z.Warmed39 U.vm ∧ U.heap = h0) (fun _ _ _ _ _ => True) (fun _ U o U' => ∃ vQ LQ, o = .returned vQ ∧ QLO Z 3 A h0 n0 vQ U'.heap LQ ∧ FrameEnd U o U' LQ ({ frames := 5, cells := 2, slots := 5, locals := 63 } : Room).cells ({ frames := 5, cells := 2, slots := 5, locals := 63 } : Room).slots) := by
  refine MetFree.of_bodySF (plainFor_of_name pn_4) hisR ?_
  intro p e s m args below meth c s₁ Bd hml0 hP hK
  obtain ⟨rfl, hZ, hh⟩ := hP
  have hx := Bd.exec
  have hby := Bd.bytes
  have hml : c.maxLocals = 3 := hml0
  have hown : s.vm.findClass "java/util/ImmutableCollections" = some m.cls := findClass_of_methodNamed Bd.named
  have hnm := (name_of_methodNamed Bd.named Bd.method).1
  have X0 : Stand p l e ({ frames := 5, cells := 2, slots := 5, locals := 63 } : Room) s m #[(.ref ns)] below meth c s₁ [] 0 0 := Stand.of_body Bd
  have e0 : s₁.heap = h0 := by rw [← hh, Bd.state]; rfl
  have NF := Fr.nil n0
  have OLD : Ext h0 h0 := own_erefl h0
  refine Gl.out ?_
  refine Gl.go ?_ (fun t k => castTop (ef_rm_lfa_3 m ns) k)
  show Gl _ _ _ _ (s₁.setTop (mkF m 0 _ []))
  refine Gl.go ?_ (fun t k => XS.aloadN X0.here hx rfl (hb hby d4_0) rfl rfl k)
  show Gl _ _ _ _ (s₁.setTop (mkF m 1 #[.val (.ref ns), .unset, .unset] [(.ref ns)]))
  refine Gl.go ?_ (RA.len (hNS.ext OLD) X0 hx hZ e0 (g := (mkF m 1 #[.val (.ref ns), .unset, .unset] [(.ref ns)])) rfl rfl (hb hby d4_1))
  show Gl _ _ _ _ (s₁.setTop (mkF m 2 #[.val (.ref ns), .unset, .unset] [(.int (3 : Int32))]))
  obtain ⟨T87, h87, k87, X87, e87, E87, A87, O87, st87⟩ := newR X0 hx hZ hown (hw _ (List.mem_of_getElem? (i := 31) rfl)) (hw _ (List.mem_of_getElem? (i := 32) rfl)) e0 (g := (mkF m 2 #[.val (.ref ns), .unset, .unset] [(.int (3 : Int32))])) rfl (hb hby d4_2) rfl (by decide) (cap := 3) (by decide) (by decide) (by decide) (by decide)
  obtain ⟨b87, g87⟩ : ∃ z, z = h0.size := ⟨_, rfl⟩
  rw [← g87] at A87 st87
  have g_b87 : n0 ≤ b87 := Nat.le_trans Z0 (Nat.le_of_eq g87.symm)
  have sz_b87 : (h0).size ≤ b87 := Nat.le_trans OLD.1 (Nat.le_of_eq g87.symm)
  replace OLD := own_oext OLD E87
  replace Z0 := Nat.le_trans Z0 E87.1
  have V_b87 : Arv Z h87 b87 k87 (.object "java/lang/Object") (3 : Int32) [.null, .null, .null] .null := (Arv.new A87 (by decide)).pad (pad_rep [] .null 3)
  refine Gl.go ?_ st87
  show Gl _ _ _ _ (T87.setTop (mkF m 5 #[.val (.ref ns), .unset, .unset] [(.ref b87)]))
  refine Gl.go ?_ (fun t k => XS.astoreN X87.here hx rfl (hb hby d4_5) rfl rfl (l' := #[.val (.ref ns), .val (.ref b87), .unset]) rfl k)
  show Gl _ _ _ _ (T87.setTop (mkF m 6 _ []))
  refine Gl.go ?_ (fun t k => XS.iconst X87.here hx rfl (hb hby d4_6) k)
  show Gl _ _ _ _ (T87.setTop (mkF m 7 #[.val (.ref ns), .val (.ref b87), .unset] [(.int (0 : Int32))]))
  refine Gl.go ?_ (fun t k => XS.istoreN X87.here hx rfl (hb hby d4_7) rfl (l' := #[.val (.ref ns), .val (.ref b87), .val (.int (0 : Int32))]) rfl k)
  show Gl _ _ _ _ (T87.setTop (mkF m 8 _ []))
  refine Gl.go ?_ (fun t k => XS.iloadN X87.here hx rfl (hb hby d4_8) rfl k)
  show Gl _ _ _ _ (T87.setTop (mkF m 9 _ [(.int (0 : Int32))]))
  refine Gl.go ?_ (fun t k => XS.aloadN X87.here hx rfl (hb hby d4_9) rfl rfl k)
  show Gl _ _ _ _ (T87.setTop (mkF m 10 #[.val (.ref ns), .val (.ref b87), .val (.int (0 : Int32))] [(.ref ns), (.int (0 : Int32))]))
  refine Gl.go ?_ (RA.len (hNS.ext OLD) X87 hx hZ e87 (g := (mkF m 10 #[.val (.ref ns), .val (.ref b87), .val (.int (0 : Int32))] [(.ref ns), (.int (0 : Int32))])) rfl rfl (hb hby d4_10))
  show Gl _ _ _ _ (T87.setTop (mkF m 11 _ [(.int (3 : Int32)), (.int (0 : Int32))]))
  refine Gl.go ?_ (fun t k => XS.icmpNo X87.here hx rfl (hb hby d4_11) rfl (tlt (by decide : (0 : Int32) < (3 : Int32))).2.1 k)
  show Gl _ _ _ _ (T87.setTop (mkF m 14 _ []))
  refine Gl.go ?_ (fun t k => XS.aloadN X87.here hx rfl (hb hby d4_14) rfl rfl k)
  show Gl _ _ _ _ (T87.setTop (mkF m 15 _ [(.ref b87)]))
  refine Gl.go ?_ (fun t k => XS.iloadN X87.here hx rfl (hb hby d4_15) rfl k)
  show Gl _ _ _ _ (T87.setTop (mkF m 16 _ [(.int (0 : Int32)), (.ref b87)]))
  refine Gl.go ?_ (fun t k => XS.aloadN X87.here hx rfl (hb hby d4_16) rfl rfl k)
  show Gl _ _ _ _ (T87.setTop (mkF m 17 _ [(.ref ns), (.int (0 : Int32)), (.ref b87)]))
  refine Gl.go ?_ (fun t k => XS.iloadN X87.here hx rfl (hb hby d4_17) rfl k)
  show Gl _ _ _ _ (T87.setTop (mkF m 18 #[.val (.ref ns), .val (.ref b87), .val (.int (0 : Int32))] [(.int (0 : Int32)), (.ref ns), (.int (0 : Int32)), (.ref b87)]))
  refine Gl.go ?_ (RA.rd (hNS.ext OLD) rfl X87 hx hZ e87 (by decide) (by decide) (g := (mkF m 18 #[.val (.ref ns), .val (.ref b87), .val (.int (0 : Int32))] [(.int (0 : Int32)), (.ref ns), (.int (0 : Int32)), (.ref b87)])) rfl rfl (hb hby d4_18))
  show Gl _ _ _ _ (T87.setTop (mkF m 19 #[.val (.ref ns), .val (.ref b87), .val (.int (0 : Int32))] [(.ref (A 0)), (.int (0 : Int32)), (.ref b87)]))
  obtain ⟨_, _, ⟨T88, L88, k88, n88⟩, -, X88, ⟨Lc88, hQ88, l88, y88, z88⟩, st88⟩ := Jvm.LawKit.callS X87 hx (y := (⟨"java/util/Objects", "requireNonNull", "(Ljava/lang/Object;)Ljava/lang/Object;"⟩ : MethodName)) hown (mvT hZ (hw _ (List.mem_of_getElem? (i := 33) rfl))) (mvT hZ (hw _ (List.mem_of_getElem? (i := 34) rfl))) (mvT hZ (hw _ (List.mem_of_getElem? (i := 35) rfl))) (mvT hZ (hw _ (List.mem_of_getElem? (i := 36) rfl))) (by decide) (backOf (W := 2) (rm5 l Z a0 hw [] (A 0) h87) hZ (hw _ (List.mem_of_getElem? (i := 36) rfl)) (hw _ (List.mem_of_getElem? (i := 35) rfl)) (by decide) (by decide)) (g := (mkF m 19 #[.val (.ref ns), .val (.ref b87), .val (.int (0 : Int32))] [(.ref (A 0)), (.int (0 : Int32)), (.ref b87)])) rfl (by rw [hml]; rfl) (argsL := [(.ref (A 0))]) (rest := [(.int (0 : Int32)), (.ref b87)]) (lenOf pd_2 rfl) rfl (by show 2 * 0 + _ ≤ _; exact Nat.le_of_eq rfl) (hb hby d4_19) (fun _ _ => ⟨rfl, e87, (by decide : 1 + 0 ≤ _), (by decide : 3 + 0 ≤ _)⟩)
  dsimp only [Pt.U, Pt.locs, Pt.cells, Pt.slots] at X88 l88 y88 z88 st88 hQ88
  rw [l88, y88, z88] at X88
  clear l88 y88 z88
  obtain ⟨rfl, rfl, e88⟩ := hQ88
  replace NF := Fr.app NF (Fr.nil n0)
  refine Gl.go ?_ st88
  show Gl _ _ _ _ (T88.setTop (mkF m 22 #[.val (.ref ns), .val (.ref b87), .val (.int (0 : Int32))] [(.ref (A 0)), (.int (0 : Int32)), (.ref b87)]))
  obtain ⟨cl89, Ar89, q89, S89, N89, Hh89, G89⟩ := V_b87
  obtain ⟨T89, h89, X89, e89, W89, st89⟩ := stR X88 hx hZ e88 Ar89 (j := (0 : Int32)) (inb_of S89 ⟨by decide, by decide⟩) rfl (Sto.ofV Ar89 q89 O87 (Ins.of_exa ((hE 0 (by decide)).ext OLD) (hw _ (List.mem_of_getElem? (i := 37) rfl)))) (g := (mkF m 22 #[.val (.ref ns), .val (.ref b87), .val (.int (0 : Int32))] [(.ref (A 0)), (.int (0 : Int32)), (.ref b87)])) rfl rfl (hb hby d4_22)
  replace OLD := own_owr OLD W89 sz_b87
  replace Z0 := Nat.le_trans Z0 (Keep.of_wr W89).1
  have V_b87 : Arv Z h89 b87 k87 (.object "java/lang/Object") (3 : Int32) [(.ref (A 0)), .null, .null] .null := Arv.set Ar89 q89 S89 N89 Hh89 G89 rfl W89 0 rfl (Nat.le_of_ble_eq_true rfl)
  clear Hh89 G89 N89 S89 q89 W89
  clear Ar89
  clear cl89
  replace NF := Fr.snoc X89 NF g_b87
  refine Gl.go ?_ st89
  show Gl _ _ _ _ (T89.setTop (mkF m 23 #[.val (.ref ns), .val (.ref b87), .val (.int (0 : Int32))] []))
  refine Gl.go ?_ (fun t k => XS.iinc X89.here hx rfl (hb hby d4_23) rfl (l' := #[.val (.ref ns), .val (.ref b87), .val (.int (1 : Int32))]) rfl k)
  show Gl _ _ _ _ (T89.setTop (mkF m 26 _ []))
  refine Gl.go ?_ (fun t k => XS.goto X89.here hx rfl (pc0 := 26) (pc' := 8) rfl (hb hby d4_26) (by decide) (by decide) k)
  show Gl _ _ _ _ (T89.setTop (mkF m 8 _ []))
  refine Gl.go ?_ (fun t k => XS.iloadN X89.here hx rfl (hb hby d4_8) rfl k)
  show Gl _ _ _ _ (T89.setTop (mkF m 9 _ [(.int (1 : Int32))]))
  refine Gl.go ?_ (fun t k => XS.aloadN X89.here hx rfl (hb hby d4_9) rfl rfl k)
  show Gl _ _ _ _ (T89.setTop (mkF m 10 #[.val (.ref ns), .val (.ref b87), .val (.int (1 : Int32))] [(.ref ns), (.int (1 : Int32))]))
  refine Gl.go ?_ (RA.len (hNS.ext OLD) X89 hx hZ e89 (g := (mkF m 10 #[.val (.ref ns), .val (.ref b87), .val (.int (1 : Int32))] [(.ref ns), (.int (1 : Int32))])) rfl rfl (hb hby d4_10))
  show Gl _ _ _ _ (T89.setTop (mkF m 11 _ [(.int (3 : Int32)), (.int (1 : Int32))]))
  refine Gl.go ?_ (fun t k => XS.icmpNo X89.here hx rfl (hb hby d4_11) rfl (tlt (by decide : (1 : Int32) < (3 : Int32))).2.1 k)
  show Gl _ _ _ _ (T89.setTop (mkF m 14 _ []))
  refine Gl.go ?_ (fun t k => XS.aloadN X89.here hx rfl (hb hby d4_14) rfl rfl k)
  show Gl _ _ _ _ (T89.setTop (mkF m 15 _ [(.ref b87)]))
  refine Gl.go ?_ (fun t k => XS.iloadN X89.here hx rfl (hb hby d4_15) rfl k)
  show Gl _ _ _ _ (T89.setTop (mkF m 16 _ [(.int (1 : Int32)), (.ref b87)]))
  refine Gl.go ?_ (fun t k => XS.aloadN X89.here hx rfl (hb hby d4_16) rfl rfl k)
  show Gl _ _ _ _ (T89.setTop (mkF m 17 _ [(.ref ns), (.int (1 : Int32)), (.ref b87)]))
  refine Gl.go ?_ (fun t k => XS.iloadN X89.here hx rfl (hb hby d4_17) rfl k)
  show Gl _ _ _ _ (T89.setTop (mkF m 18 #[.val (.ref ns), .val (.ref b87), .val (.int (1 : Int32))] [(.int (1 : Int32)), (.ref ns), (.int (1 : Int32)), (.ref b87)]))
  refine Gl.go ?_ (RA.rd (hNS.ext OLD) rfl X89 hx hZ e89 (by decide) (by decide) (g := (mkF m 18 #[.val (.ref ns), .val (.ref b87), .val (.int (1 : Int32))] [(.int (1 : Int32)), (.ref ns), (.int (1 : Int32)), (.ref b87)])) rfl rfl (hb hby d4_18))
  show Gl _ _ _ _ (T89.setTop (mkF m 19 #[.val (.ref ns), .val (.ref b87), .val (.int (1 : Int32))] [(.ref (A 1)), (.int (1 : Int32)), (.ref b87)]))
  obtain ⟨_, _, ⟨T90, L90, k90, n90⟩, -, X90, ⟨Lc90, hQ90, l90, y90, z90⟩, st90⟩ := Jvm.LawKit.callS X89 hx (y := (⟨"java/util/Objects", "requireNonNull", "(Ljava/lang/Object;)Ljava/lang/Object;"⟩ : MethodName)) hown (mvT hZ (hw _ (List.mem_of_getElem? (i := 33) rfl))) (mvT hZ (hw _ (List.mem_of_getElem? (i := 34) rfl))) (mvT hZ (hw _ (List.mem_of_getElem? (i := 35) rfl))) (mvT hZ (hw _ (List.mem_of_getElem? (i := 36) rfl))) (by decide) (backOf (W := 2) (rm5 l Z a0 hw [] (A 1) h89) hZ (hw _ (List.mem_of_getElem? (i := 36) rfl)) (hw _ (List.mem_of_getElem? (i := 35) rfl)) (by decide) (by decide)) (g := (mkF m 19 #[.val (.ref ns), .val (.ref b87), .val (.int (1 : Int32))] [(.ref (A 1)), (.int (1 : Int32)), (.ref b87)])) rfl (by rw [hml]; rfl) (argsL := [(.ref (A 1))]) (rest := [(.int (1 : Int32)), (.ref b87)]) (lenOf pd_2 rfl) rfl (by show 2 * 0 + _ ≤ _; exact Nat.le_of_eq rfl) (hb hby d4_19) (fun _ _ => ⟨rfl, e89, (by decide : 1 + 0 ≤ _), (by decide : 3 + 0 ≤ _)⟩)
  dsimp only [Pt.U, Pt.locs, Pt.cells, Pt.slots] at X90 l90 y90 z90 st90 hQ90
  rw [l90, y90, z90] at X90
  clear l90 y90 z90
  obtain ⟨rfl, rfl, e90⟩ := hQ90
  replace NF := Fr.app NF (Fr.nil n0)
  refine Gl.go ?_ st90
  show Gl _ _ _ _ (T90.setTop (mkF m 22 #[.val (.ref ns), .val (.ref b87), .val (.int (1 : Int32))] [(.ref (A 1)), (.int (1 : Int32)), (.ref b87)]))
  obtain ⟨cl91, Ar91, q91, S91, N91, Hh91, G91⟩ := V_b87
  obtain ⟨T91, h91, X91, e91, W91, st91⟩ := stR X90 hx hZ e90 Ar91 (j := (1 : Int32)) (inb_of S91 ⟨by decide, by decide⟩) rfl (Sto.ofV Ar91 q91 O87 (Ins.of_exa ((hE 1 (by decide)).ext OLD) (hw _ (List.mem_of_getElem? (i := 37) rfl)))) (g := (mkF m 22 #[.val (.ref ns), .val (.ref b87), .val (.int (1 : Int32))] [(.ref (A 1)), (.int (1 : Int32)), (.ref b87)])) rfl rfl (hb hby d4_22)
  replace OLD := own_owr OLD W91 sz_b87
  replace Z0 := Nat.le_trans Z0 (Keep.of_wr W91).1
  have V_b87 : Arv Z h91 b87 k87 (.object "java/lang/Object") (3 : Int32) [(.ref (A 0)), (.ref (A 1)), .null] .null := Arv.set Ar91 q91 S91 N91 Hh91 G91 rfl W91 1 rfl (Nat.le_of_ble_eq_true rfl)
  clear Hh91 G91 N91 S91 q91 W91
  clear Ar91
  clear cl91
  replace NF := Fr.snoc X91 NF g_b87
  refine Gl.go ?_ st91
  show Gl _ _ _ _ (T91.setTop (mkF m 23 #[.val (.ref ns), .val (.ref b87), .val (.int (1 : Int32))] []))
  refine Gl.go ?_ (fun t k => XS.iinc X91.here hx rfl (hb hby d4_23) rfl (l' := #[.val (.ref ns), .val (.ref b87), .val (.int (2 : Int32))]) rfl k)
  show Gl _ _ _ _ (T91.setTop (mkF m 26 _ []))
  refine Gl.go ?_ (fun t k => XS.goto X91.here hx rfl (pc0 := 26) (pc' := 8) rfl (hb hby d4_26) (by decide) (by decide) k)
  show Gl _ _ _ _ (T91.setTop (mkF m 8 _ []))
  refine Gl.go ?_ (fun t k => XS.iloadN X91.here hx rfl (hb hby d4_8) rfl k)
  show Gl _ _ _ _ (T91.setTop (mkF m 9 _ [(.int (2 : Int32))]))
  refine Gl.go ?_ (fun t k => XS.aloadN X91.here hx rfl (hb hby d4_9) rfl rfl k)
  show Gl _ _ _ _ (T91.setTop (mkF m 10 #[.val (.ref ns), .val (.ref b87), .val (.int (2 : Int32))] [(.ref ns), (.int (2 : Int32))]))
  refine Gl.go ?_ (RA.len (hNS.ext OLD) X91 hx hZ e91 (g := (mkF m 10 #[.val (.ref ns), .val (.ref b87), .val (.int (2 : Int32))] [(.ref ns), (.int (2 : Int32))])) rfl rfl (hb hby d4_10))
  show Gl _ _ _ _ (T91.setTop (mkF m 11 _ [(.int (3 : Int32)), (.int (2 : Int32))]))
  refine Gl.go ?_ (fun t k => XS.icmpNo X91.here hx rfl (hb hby d4_11) rfl (tlt (by decide : (2 : Int32) < (3 : Int32))).2.1 k)
  show Gl _ _ _ _ (T91.setTop (mkF m 14 _ []))
  refine Gl.go ?_ (fun t k => XS.aloadN X91.here hx rfl (hb hby d4_14) rfl rfl k)
  show Gl _ _ _ _ (T91.setTop (mkF m 15 _ [(.ref b87)]))
  refine Gl.go ?_ (fun t k => XS.iloadN X91.here hx rfl (hb hby d4_15) rfl k)
  show Gl _ _ _ _ (T91.setTop (mkF m 16 _ [(.int (2 : Int32)), (.ref b87)]))
  refine Gl.go ?_ (fun t k => XS.aloadN X91.here hx rfl (hb hby d4_16) rfl rfl k)
  show Gl _ _ _ _ (T91.setTop (mkF m 17 _ [(.ref ns), (.int (2 : Int32)), (.ref b87)]))
  refine Gl.go ?_ (fun t k => XS.iloadN X91.here hx rfl (hb hby d4_17) rfl k)
  show Gl _ _ _ _ (T91.setTop (mkF m 18 #[.val (.ref ns), .val (.ref b87), .val (.int (2 : Int32))] [(.int (2 : Int32)), (.ref ns), (.int (2 : Int32)), (.ref b87)]))
  refine Gl.go ?_ (RA.rd (hNS.ext OLD) rfl X91 hx hZ e91 (by decide) (by decide) (g := (mkF m 18 #[.val (.ref ns), .val (.ref b87), .val (.int (2 : Int32))] [(.int (2 : Int32)), (.ref ns), (.int (2 : Int32)), (.ref b87)])) rfl rfl (hb hby d4_18))
  show Gl _ _ _ _ (T91.setTop (mkF m 19 #[.val (.ref ns), .val (.ref b87), .val (.int (2 : Int32))] [(.ref (A 2)), (.int (2 : Int32)), (.ref b87)]))
  obtain ⟨_, _, ⟨T92, L92, k92, n92⟩, -, X92, ⟨Lc92, hQ92, l92, y92, z92⟩, st92⟩ := Jvm.LawKit.callS X91 hx (y := (⟨"java/util/Objects", "requireNonNull", "(Ljava/lang/Object;)Ljava/lang/Object;"⟩ : MethodName)) hown (mvT hZ (hw _ (List.mem_of_getElem? (i := 33) rfl))) (mvT hZ (hw _ (List.mem_of_getElem? (i := 34) rfl))) (mvT hZ (hw _ (List.mem_of_getElem? (i := 35) rfl))) (mvT hZ (hw _ (List.mem_of_getElem? (i := 36) rfl))) (by decide) (backOf (W := 2) (rm5 l Z a0 hw [] (A 2) h91) hZ (hw _ (List.mem_of_getElem? (i := 36) rfl)) (hw _ (List.mem_of_getElem? (i := 35) rfl)) (by decide) (by decide)) (g := (mkF m 19 #[.val (.ref ns), .val (.ref b87), .val (.int (2 : Int32))] [(.ref (A 2)), (.int (2 : Int32)), (.ref b87)])) rfl (by rw [hml]; rfl) (argsL := [(.ref (A 2))]) (rest := [(.int (2 : Int32)), (.ref b87)]) (lenOf pd_2 rfl) rfl (by show 2 * 0 + _ ≤ _; exact Nat.le_of_eq rfl) (hb hby d4_19) (fun _ _ => ⟨rfl, e91, (by decide : 1 + 0 ≤ _), (by decide : 3 + 0 ≤ _)⟩)
  dsimp only [Pt.U, Pt.locs, Pt.cells, Pt.slots] at X92 l92 y92 z92 st92 hQ92
  rw [l92, y92, z92] at X92
  clear l92 y92 z92
  obtain ⟨rfl, rfl, e92⟩ := hQ92
  replace NF := Fr.app NF (Fr.nil n0)
  refine Gl.go ?_ st92
  show Gl _ _ _ _ (T92.setTop (mkF m 22 #[.val (.ref ns), .val (.ref b87), .val (.int (2 : Int32))] [(.ref (A 2)), (.int (2 : Int32)), (.ref b87)]))
  obtain ⟨cl93, Ar93, q93, S93, N93, Hh93, G93⟩ := V_b87
  obtain ⟨T93, h93, X93, e93, W93, st93⟩ := stR X92 hx hZ e92 Ar93 (j := (2 : Int32)) (inb_of S93 ⟨by decide, by decide⟩) rfl (Sto.ofV Ar93 q93 O87 (Ins.of_exa ((hE 2 (by decide)).ext OLD) (hw _ (List.mem_of_getElem? (i := 37) rfl)))) (g := (mkF m 22 #[.val (.ref ns), .val (.ref b87), .val (.int (2 : Int32))] [(.ref (A 2)), (.int (2 : Int32)), (.ref b87)])) rfl rfl (hb hby d4_22)
  replace OLD := own_owr OLD W93 sz_b87
  replace Z0 := Nat.le_trans Z0 (Keep.of_wr W93).1
  have V_b87 : Arv Z h93 b87 k87 (.object "java/lang/Object") (3 : Int32) [(.ref (A 0)), (.ref (A 1)), (.ref (A 2))] .null := Arv.set Ar93 q93 S93 N93 Hh93 G93 rfl W93 2 rfl (Nat.le_of_ble_eq_true rfl)
  clear Hh93 G93 N93 S93 q93 W93
  clear Ar93
  clear cl93
  replace NF := Fr.snoc X93 NF g_b87
  refine Gl.go ?_ st93
  show Gl _ _ _ _ (T93.setTop (mkF m 23 #[.val (.ref ns), .val (.ref b87), .val (.int (2 : Int32))] []))
  refine Gl.go ?_ (fun t k => XS.iinc X93.here hx rfl (hb hby d4_23) rfl (l' := #[.val (.ref ns), .val (.ref b87), .val (.int (3 : Int32))]) rfl k)
  show Gl _ _ _ _ (T93.setTop (mkF m 26 _ []))
  refine Gl.go ?_ (fun t k => XS.goto X93.here hx rfl (pc0 := 26) (pc' := 8) rfl (hb hby d4_26) (by decide) (by decide) k)
  show Gl _ _ _ _ (T93.setTop (mkF m 8 _ []))
  refine Gl.go ?_ (fun t k => XS.iloadN X93.here hx rfl (hb hby d4_8) rfl k)
  show Gl _ _ _ _ (T93.setTop (mkF m 9 _ [(.int (3 : Int32))]))
  refine Gl.go ?_ (fun t k => XS.aloadN X93.here hx rfl (hb hby d4_9) rfl rfl k)
  show Gl _ _ _ _ (T93.setTop (mkF m 10 #[.val (.ref ns), .val (.ref b87), .val (.int (3 : Int32))] [(.ref ns), (.int (3 : Int32))]))
  refine Gl.go ?_ (RA.len (hNS.ext OLD) X93 hx hZ e93 (g := (mkF m 10 #[.val (.ref ns), .val (.ref b87), .val (.int (3 : Int32))] [(.ref ns), (.int (3 : Int32))])) rfl rfl (hb hby d4_10))
  show Gl _ _ _ _ (T93.setTop (mkF m 11 _ [(.int (3 : Int32)), (.int (3 : Int32))]))
  refine Gl.go ?_ (fun t k => XS.icmpYes X93.here hx rfl (pc0 := 11) (pc' := 29) rfl (hb hby d4_11) rfl (flt (by decide : ¬ ((3 : Int32) < (3 : Int32)))).2.1 (by decide) (by decide) k)
  show Gl _ _ _ _ (T93.setTop (mkF m 29 #[.val (.ref ns), .val (.ref b87), .val (.int (3 : Int32))] []))
  obtain ⟨T94, h94, X94, e94, E94, A94, D94, -, st94⟩ := newO X93 hx hZ hown (hw _ (List.mem_of_getElem? (i := 38) rfl)) (hw _ (List.mem_of_getElem? (i := 39) rfl)) (hw _ (List.mem_of_getElem? (i := 40) rfl)) e93 (g := (mkF m 29 #[.val (.ref ns), .val (.ref b87), .val (.int (3 : Int32))] [])) rfl (hb hby d4_29) (by decide) (by decide)
  obtain ⟨b94, g94⟩ : ∃ z, z = h93.size := ⟨_, rfl⟩
  rw [← g94] at A94 D94 st94
  have g_b94 : n0 ≤ b94 := Nat.le_trans Z0 (Nat.le_of_eq g94.symm)
  have ne_b87_b94 : b87 ≠ b94 := Nat.ne_of_lt (Nat.lt_of_lt_of_le V_b87.lt (Nat.le_of_eq g94.symm))
  have sz_b94 : (h0).size ≤ b94 := Nat.le_trans OLD.1 (Nat.le_of_eq g94.symm)
  replace OLD := own_oext OLD E94
  replace V_b87 := V_b87.ext E94
  replace Z0 := Nat.le_trans Z0 E94.1
  have E_b94 := A94
  have F_elements_b94 : Fld Z h94 b94 "java/util/ImmutableCollections$ListN" "elements" "[Ljava/lang/Object;" .null := D94 (Or.inr (hw _ (List.mem_of_getElem? (i := 67) rfl))) (ty := (.array (.object "java/lang/Object"))) (by decide)
  have F_allowNulls_b94 : Fld Z h94 b94 "java/util/ImmutableCollections$ListN" "allowNulls" "Z" (.int (0 : Int32)) := D94 (Or.inr (hw _ (List.mem_of_getElem? (i := 69) rfl))) (ty := .boolean) (by decide)
  refine Gl.go ?_ st94
  show Gl _ _ _ _ (T94.setTop (mkF m 32 _ [(.ref b94)]))
  refine Gl.go ?_ (fun t k => XS.dup X94.here hx rfl (hb hby d4_32) rfl rfl k)
  show Gl _ _ _ _ (T94.setTop (mkF m 33 _ [(.ref b94), (.ref b94)]))
  refine Gl.go ?_ (fun t k => XS.aloadN X94.here hx rfl (hb hby d4_33) rfl rfl k)
  show Gl _ _ _ _ (T94.setTop (mkF m 34 _ [(.ref b87), (.ref b94), (.ref b94)]))
  refine Gl.go ?_ (fun t k => XS.iconst X94.here hx rfl (hb hby d4_34) k)
  show Gl _ _ _ _ (T94.setTop (mkF m 35 #[.val (.ref ns), .val (.ref b87), .val (.int (3 : Int32))] [(.int (0 : Int32)), (.ref b87), (.ref b94), (.ref b94)]))
  obtain ⟨_, _, ⟨T95, L95, k95, n95⟩, -, X95, ⟨Lc95, hQ95, l95, y95, z95⟩, st95⟩ := X94.specialBackNest hx (y := (⟨"java/util/ImmutableCollections$ListN", "<init>", "([Ljava/lang/Object;Z)V"⟩ : MethodName)) rfl hown (own_mvM hZ (hw _ (List.mem_of_getElem? (i := 41) rfl))) (mvT hZ (hw _ (List.mem_of_getElem? (i := 42) rfl))) (mvT hZ (hw _ (List.mem_of_getElem? (i := 44) rfl))) (by decide) (backOf (W := 1) (rm6 l Z a0 hw [] b94 b87  _ _ h94 n0 Z0 E_b94 g_b94 F_elements_b94 F_allowNulls_b94 ) hZ (hw _ (List.mem_of_getElem? (i := 44) rfl)) (hw _ (List.mem_of_getElem? (i := 40) rfl)) (by decide) (by decide)) (g := (mkF m 35 #[.val (.ref ns), .val (.ref b87), .val (.int (3 : Int32))] [(.int (0 : Int32)), (.ref b87), (.ref b94), (.ref b94)])) rfl (by rw [hml]; rfl) (Steps.refl _) (a := b94) (argsL := [(.ref b87), (.int (0 : Int32))]) (rest := [(.ref b94)]) (lenOf pd_6 rfl) rfl (by show 2 * 0 + _ ≤ _; exact Nat.le_of_eq rfl) (hb hby d4_35) (fun _ _ => ⟨rfl, e94, (by decide : 2 + 0 ≤ _), (by decide : 5 + 0 ≤ _)⟩)
  dsimp only [Pt.U, Pt.locs, Pt.cells, Pt.slots] at X95 l95 y95 z95 st95 hQ95
  rw [l95, y95, z95] at X95
  clear l95 y95 z95
  obtain ⟨N95q, rfl, K95, ec95, f95_elements, f95_allowNulls⟩ := hQ95
  replace NF := Fr.app NF N95q
  replace OLD := own_okeep OLD K95 (fun y hy => by cases List.mem_singleton.mp hy; exact sz_b94)
  replace V_b87 := V_b87.keep K95 (ninS ne_b87_b94 nin0)
  replace Z0 := Nat.le_trans Z0 K95.1
  replace E_b94 := ec95
  replace F_elements_b94 := f95_elements
  replace F_allowNulls_b94 := f95_allowNulls
  refine Gl.tr ?_ st95
  show Gl _ _ _ _ (T95.setTop (mkF m 38 _ [(.ref b94)]))
  obtain ⟨fs, hr, hrun, hended, hW, hsame⟩ := X95.leave (v := some (.ref b94)) (fun h => by rw [Bd.returns] at h; cases h) (BodyLoose.notSynchronized Bd)
  exact Gl.mk ⟨_, _, retOut X95 hx Bd.returns rfl (Or.inr (Or.inr (Or.inr (Or.inr ⟨rfl, rfl, rfl⟩)))) (hb hby d4_38) hr, hrun, hended, _, _, rfl, own_cast (P := fun H v L => QLO Z 3 A h0 n0 v H L) rfl ⟨NF, ⟨b94, rfl, OLD, Or.inr ⟨by decide, by decide, ⟨sz_b94, E_b94.lt⟩, E_b94, F_allowNulls_b94, b87, ⟨sz_b87, V_b87.lt⟩, F_elements_b94, RA.of V_b87 3 rfl (own_lt3 rfl rfl rfl)⟩⟩⟩, ⟨_, rfl⟩, hW, hsame.mono (by decide) (by decide)⟩
theorem ef_rm_lfa_4 (m : MethodId) (x0 : Addr) : entryFrame m #[(.ref x0)] 3 = mkF m 0 #[.val (.ref x0), .unset, .unset] [] := by first | (simp [entryFrame, mkF, argsToLocals, Value.category]; done) | rfl
set_option maxRecDepth 65536 in
set_option maxHeartbeats 40000000 in
theorem rm_lfa_4 (l : Launch) (Z : State) (a0 : Array Value) (hw : ∀ d ∈ tables_1, d.before a0 Z = true) (ws : List Jvm.Cond) (ns : Addr) (A : Nat → Addr) (h0 : Heap) (n0 : Nat) (Z0 : n0 ≤ h0.size) (hNS : RA Z h0 ns (.object "java/lang/String") (4 : Int32) A) (hE : ∀ i, i < 4 → Exa Z h0 (A i) "java/lang/String") :
    MetFree l (⟨"java/util/ImmutableCollections", "listFromArray", "([Ljava/lang/Object;)Ljava/util/List;"⟩ : MethodName) (head1 (Jvm.Cond.code (⟨"java/util/ImmutableCollections", "listFromArray", "([Ljava/lang/Object;)Ljava/util/List;"⟩ : MethodName) jdk_56_method_4_code 3 (some (.object "java/util/List")) :: ws) ({ frames := 5, cells := 2, slots := 6, locals := 63 } : Room)) (fun aQ U => aQ = #[(.ref ns)] ∧ Z.Warmed39 U.vm ∧ U.heap = h0) (fun _ _ _ _ _ => True) (fun _ U o U' => ∃ vQ LQ, o = .returned vQ ∧ QLO Z 4 A h0 n0 vQ U'.heap LQ ∧ FrameEnd U o U' LQ ({ frames := 5, cells := 2, slots := 6, locals := 63 } : Room).cells ({ frames := 5, cells := 2, slots := 6, locals := 63 } : Room).slots) := by
  refine MetFree.of_bodySF (plainFor_of_name pn_4) hisR ?_
  intro p e s m args below meth c s₁ Bd hml0 hP hK
  obtain ⟨rfl, hZ, hh⟩ := hP
  have hx := Bd.exec
  have hby := Bd.bytes
  have hml : c.maxLocals = 3 := hml0
  have hown : s.vm.findClass "java/util/ImmutableCollections" = some m.cls := findClass_of_methodNamed Bd.named
  have hnm := (name_of_methodNamed Bd.named Bd.method).1
  have X0 : Stand p l e ({ frames := 5, cells := 2, slots := 6, locals := 63 } : Room) s m #[(.ref ns)] below meth c s₁ [] 0 0 := Stand.of_body Bd
  have e0 : s₁.heap = h0 := by rw [← hh, Bd.state]; rfl
  have NF := Fr.nil n0
  have OLD : Ext h0 h0 := own_erefl h0
  refine Gl.out ?_
  refine Gl.go ?_ (fun t k => castTop (ef_rm_lfa_4 m ns) k)
  show Gl _ _ _ _ (s₁.setTop (mkF m 0 _ []))
  refine Gl.go ?_ (fun t k => XS.aloadN X0.here hx rfl (hb hby d4_0) rfl rfl k)
  show Gl _ _ _ _ (s₁.setTop (mkF m 1 #[.val (.ref ns), .unset, .unset] [(.ref ns)]))
  refine Gl.go ?_ (RA.len (hNS.ext OLD) X0 hx hZ e0 (g := (mkF m 1 #[.val (.ref ns), .unset, .unset] [(.ref ns)])) rfl rfl (hb hby d4_1))
  show Gl _ _ _ _ (s₁.setTop (mkF m 2 #[.val (.ref ns), .unset, .unset] [(.int (4 : Int32))]))
  obtain ⟨T96, h96, k96, X96, e96, E96, A96, O96, st96⟩ := newR X0 hx hZ hown (hw _ (List.mem_of_getElem? (i := 31) rfl)) (hw _ (List.mem_of_getElem? (i := 32) rfl)) e0 (g := (mkF m 2 #[.val (.ref ns), .unset, .unset] [(.int (4 : Int32))])) rfl (hb hby d4_2) rfl (by decide) (cap := 4) (by decide) (by decide) (by decide) (by decide)
  obtain ⟨b96, g96⟩ : ∃ z, z = h0.size := ⟨_, rfl⟩
  rw [← g96] at A96 st96
  have g_b96 : n0 ≤ b96 := Nat.le_trans Z0 (Nat.le_of_eq g96.symm)
  have sz_b96 : (h0).size ≤ b96 := Nat.le_trans OLD.1 (Nat.le_of_eq g96.symm)
  replace OLD := own_oext OLD E96
  replace Z0 := Nat.le_trans Z0 E96.1
  have V_b96 : Arv Z h96 b96 k96 (.object "java/lang/Object") (4 : Int32) [.null, .null, .null, .null] .null := (Arv.new A96 (by decide)).pad (pad_rep [] .null 4)
  refine Gl.go ?_ st96
  show Gl _ _ _ _ (T96.setTop (mkF m 5 #[.val (.ref ns), .unset, .unset] [(.ref b96)]))
  refine Gl.go ?_ (fun t k => XS.astoreN X96.here hx rfl (hb hby d4_5) rfl rfl (l' := #[.val (.ref ns), .val (.ref b96), .unset]) rfl k)
  show Gl _ _ _ _ (T96.setTop (mkF m 6 _ []))
  refine Gl.go ?_ (fun t k => XS.iconst X96.here hx rfl (hb hby d4_6) k)
  show Gl _ _ _ _ (T96.setTop (mkF m 7 #[.val (.ref ns), .val (.ref b96), .unset] [(.int (0 : Int32))]))
  refine Gl.go ?_ (fun t k => XS.istoreN X96.here hx rfl (hb hby d4_7) rfl (l' := #[.val (.ref ns), .val (.ref b96), .val (.int (0 : Int32))]) rfl k)
  show Gl _ _ _ _ (T96.setTop (mkF m 8 _ []))
  refine Gl.go ?_ (fun t k => XS.iloadN X96.here hx rfl (hb hby d4_8) rfl k)
  show Gl _ _ _ _ (T96.setTop (mkF m 9 _ [(.int (0 : Int32))]))
  refine Gl.go ?_ (fun t k => XS.aloadN X96.here hx rfl (hb hby d4_9) rfl rfl k)
  show Gl _ _ _ _ (T96.setTop (mkF m 10 #[.val (.ref ns), .val (.ref b96), .val (.int (0 : Int32))] [(.ref ns), (.int (0 : Int32))]))
  refine Gl.go ?_ (RA.len (hNS.ext OLD) X96 hx hZ e96 (g := (mkF m 10 #[.val (.ref ns), .val (.ref b96), .val (.int (0 : Int32))] [(.ref ns), (.int (0 : Int32))])) rfl rfl (hb hby d4_10))
  show Gl _ _ _ _ (T96.setTop (mkF m 11 _ [(.int (4 : Int32)), (.int (0 : Int32))]))
  refine Gl.go ?_ (fun t k => XS.icmpNo X96.here hx rfl (hb hby d4_11) rfl (tlt (by decide : (0 : Int32) < (4 : Int32))).2.1 k)
  show Gl _ _ _ _ (T96.setTop (mkF m 14 _ []))
  refine Gl.go ?_ (fun t k => XS.aloadN X96.here hx rfl (hb hby d4_14) rfl rfl k)
  show Gl _ _ _ _ (T96.setTop (mkF m 15 _ [(.ref b96)]))
  refine Gl.go ?_ (fun t k => XS.iloadN X96.here hx rfl (hb hby d4_15) rfl k)
  show Gl _ _ _ _ (T96.setTop (mkF m 16 _ [(.int (0 : Int32)), (.ref b96)]))
  refine Gl.go ?_ (fun t k => XS.aloadN X96.here hx rfl (hb hby d4_16) rfl rfl k)
  show Gl _ _ _ _ (T96.setTop (mkF m 17 _ [(.ref ns), (.int (0 : Int32)), (.ref b96)]))
  refine Gl.go ?_ (fun t k => XS.iloadN X96.here hx rfl (hb hby d4_17) rfl k)
  show Gl _ _ _ _ (T96.setTop (mkF m 18 #[.val (.ref ns), .val (.ref b96), .val (.int (0 : Int32))] [(.int (0 : Int32)), (.ref ns), (.int (0 : Int32)), (.ref b96)]))
  refine Gl.go ?_ (RA.rd (hNS.ext OLD) rfl X96 hx hZ e96 (by decide) (by decide) (g := (mkF m 18 #[.val (.ref ns), .val (.ref b96), .val (.int (0 : Int32))] [(.int (0 : Int32)), (.ref ns), (.int (0 : Int32)), (.ref b96)])) rfl rfl (hb hby d4_18))
  show Gl _ _ _ _ (T96.setTop (mkF m 19 #[.val (.ref ns), .val (.ref b96), .val (.int (0 : Int32))] [(.ref (A 0)), (.int (0 : Int32)), (.ref b96)]))
  obtain ⟨_, _, ⟨T97, L97, k97, n97⟩, -, X97, ⟨Lc97, hQ97, l97, y97, z97⟩, st97⟩ := Jvm.LawKit.callS X96 hx (y := (⟨"java/util/Objects", "requireNonNull", "(Ljava/lang/Object;)Ljava/lang/Object;"⟩ : MethodName)) hown (mvT hZ (hw _ (List.mem_of_getElem? (i := 33) rfl))) (mvT hZ (hw _ (List.mem_of_getElem? (i := 34) rfl))) (mvT hZ (hw _ (List.mem_of_getElem? (i := 35) rfl))) (mvT hZ (hw _ (List.mem_of_getElem? (i := 36) rfl))) (by decide) (backOf (W := 2) (rm5 l Z a0 hw [] (A 0) h96) hZ (hw _ (List.mem_of_getElem? (i := 36) rfl)) (hw _ (List.mem_of_getElem? (i := 35) rfl)) (by decide) (by decide)) (g := (mkF m 19 #[.val (.ref ns), .val (.ref b96), .val (.int (0 : Int32))] [(.ref (A 0)), (.int (0 : Int32)), (.ref b96)])) rfl (by rw [hml]; rfl) (argsL := [(.ref (A 0))]) (rest := [(.int (0 : Int32)), (.ref b96)]) (lenOf pd_2 rfl) rfl (by show 2 * 0 + _ ≤ _; exact Nat.le_of_eq rfl) (hb hby d4_19) (fun _ _ => ⟨rfl, e96, (by decide : 1 + 0 ≤ _), (by decide : 4 + 0 ≤ _)⟩)
  dsimp only [Pt.U, Pt.locs, Pt.cells, Pt.slots] at X97 l97 y97 z97 st97 hQ97
  rw [l97, y97, z97] at X97
  clear l97 y97 z97
  obtain ⟨rfl, rfl, e97⟩ := hQ97
  replace NF := Fr.app NF (Fr.nil n0)
  refine Gl.go ?_ st97
  show Gl _ _ _ _ (T97.setTop (mkF m 22 #[.val (.ref ns), .val (.ref b96), .val (.int (0 : Int32))] [(.ref (A 0)), (.int (0 : Int32)), (.ref b96)]))
  obtain ⟨cl98, Ar98, q98, S98, N98, Hh98, G98⟩ := V_b96
  obtain ⟨T98, h98, X98, e98, W98, st98⟩ := stR X97 hx hZ e97 Ar98 (j := (0 : Int32)) (inb_of S98 ⟨by decide, by decide⟩) rfl (Sto.ofV Ar98 q98 O96 (Ins.of_exa ((hE 0 (by decide)).ext OLD) (hw _ (List.mem_of_getElem? (i := 37) rfl)))) (g := (mkF m 22 #[.val (.ref ns), .val (.ref b96), .val (.int (0 : Int32))] [(.ref (A 0)), (.int (0 : Int32)), (.ref b96)])) rfl rfl (hb hby d4_22)
  replace OLD := own_owr OLD W98 sz_b96
  replace Z0 := Nat.le_trans Z0 (Keep.of_wr W98).1
  have V_b96 : Arv Z h98 b96 k96 (.object "java/lang/Object") (4 : Int32) [(.ref (A 0)), .null, .null, .null] .null := Arv.set Ar98 q98 S98 N98 Hh98 G98 rfl W98 0 rfl (Nat.le_of_ble_eq_true rfl)
  clear Hh98 G98 N98 S98 q98 W98
  clear Ar98
  clear cl98
  replace NF := Fr.snoc X98 NF g_b96
  refine Gl.go ?_ st98
  show Gl _ _ _ _ (T98.setTop (mkF m 23 #[.val (.ref ns), .val (.ref b96), .val (.int (0 : Int32))] []))
  refine Gl.go ?_ (fun t k => XS.iinc X98.here hx rfl (hb hby d4_23) rfl (l' := #[.val (.ref ns), .val (.ref b96), .val (.int (1 : Int32))]) rfl k)
  show Gl _ _ _ _ (T98.setTop (mkF m 26 _ []))
  refine Gl.go ?_ (fun t k => XS.goto X98.here hx rfl (pc0 := 26) (pc' := 8) rfl (hb hby d4_26) (by decide) (by decide) k)
  show Gl _ _ _ _ (T98.setTop (mkF m 8 _ []))
  refine Gl.go ?_ (fun t k => XS.iloadN X98.here hx rfl (hb hby d4_8) rfl k)
  show Gl _ _ _ _ (T98.setTop (mkF m 9 _ [(.int (1 : Int32))]))
  refine Gl.go ?_ (fun t k => XS.aloadN X98.here hx rfl (hb hby d4_9) rfl rfl k)
  show Gl _ _ _ _ (T98.setTop (mkF m 10 #[.val (.ref ns), .val (.ref b96), .val (.int (1 : Int32))] [(.ref ns), (.int (1 : Int32))]))
  refine Gl.go ?_ (RA.len (hNS.ext OLD) X98 hx hZ e98 (g := (mkF m 10 #[.val (.ref ns), .val (.ref b96), .val (.int (1 : Int32))] [(.ref ns), (.int (1 : Int32))])) rfl rfl (hb hby d4_10))
  show Gl _ _ _ _ (T98.setTop (mkF m 11 _ [(.int (4 : Int32)), (.int (1 : Int32))]))
  refine Gl.go ?_ (fun t k => XS.icmpNo X98.here hx rfl (hb hby d4_11) rfl (tlt (by decide : (1 : Int32) < (4 : Int32))).2.1 k)
  show Gl _ _ _ _ (T98.setTop (mkF m 14 _ []))
  refine Gl.go ?_ (fun t k => XS.aloadN X98.here hx rfl (hb hby d4_14) rfl rfl k)
  show Gl _ _ _ _ (T98.setTop (mkF m 15 _ [(.ref b96)]))
  refine Gl.go ?_ (fun t k => XS.iloadN X98.here hx rfl (hb hby d4_15) rfl k)
  show Gl _ _ _ _ (T98.setTop (mkF m 16 _ [(.int (1 : Int32)), (.ref b96)]))
  refine Gl.go ?_ (fun t k => XS.aloadN X98.here hx rfl (hb hby d4_16) rfl rfl k)
  show Gl _ _ _ _ (T98.setTop (mkF m 17 _ [(.ref ns), (.int (1 : Int32)), (.ref b96)]))
  refine Gl.go ?_ (fun t k => XS.iloadN X98.here hx rfl (hb hby d4_17) rfl k)
  show Gl _ _ _ _ (T98.setTop (mkF m 18 #[.val (.ref ns), .val (.ref b96), .val (.int (1 : Int32))] [(.int (1 : Int32)), (.ref ns), (.int (1 : Int32)), (.ref b96)]))
  refine Gl.go ?_ (RA.rd (hNS.ext OLD) rfl X98 hx hZ e98 (by decide) (by decide) (g := (mkF m 18 #[.val (.ref ns), .val (.ref b96), .val (.int (1 : Int32))] [(.int (1 : Int32)), (.ref ns), (.int (1 : Int32)), (.ref b96)])) rfl rfl (hb hby d4_18))
  show Gl _ _ _ _ (T98.setTop (mkF m 19 #[.val (.ref ns), .val (.ref b96), .val (.int (1 : Int32))] [(.ref (A 1)), (.int (1 : Int32)), (.ref b96)]))
  obtain ⟨_, _, ⟨T99, L99, k99, n99⟩, -, X99, ⟨Lc99, hQ99, l99, y99, z99⟩, st99⟩ := Jvm.LawKit.callS X98 hx (y := (⟨"java/util/Objects", "requireNonNull", "(Ljava/lang/Object;)Ljava/lang/Object;"⟩ : MethodName)) hown (mvT hZ (hw _ (List.mem_of_getElem? (i := 33) rfl))) (mvT hZ (hw _ (List.mem_of_getElem? (i := 34) rfl))) (mvT hZ (hw _ (List.mem_of_getElem? (i := 35) rfl))) (mvT hZ (hw _ (List.mem_of_getElem? (i := 36) rfl))) (by decide) (backOf (W := 2) (rm5 l Z a0 hw [] (A 1) h98) hZ (hw _ (List.mem_of_getElem? (i := 36) rfl)) (hw _ (List.mem_of_getElem? (i := 35) rfl)) (by decide) (by decide)) (g := (mkF m 19 #[.val (.ref ns), .val (.ref b96), .val (.int (1 : Int32))] [(.ref (A 1)), (.int (1 : Int32)), (.ref b96)])) rfl (by rw [hml]; rfl) (argsL := [(.ref (A 1))]) (rest := [(.int (1 : Int32)), (.ref b96)]) (lenOf pd_2 rfl) rfl (by show 2 * 0 + _ ≤ _; exact Nat.le_of_eq rfl) (hb hby d4_19) (fun _ _ => ⟨rfl, e98, (by decide : 1 + 0 ≤ _), (by decide : 4 + 0 ≤ _)⟩)
  dsimp only [Pt.U, Pt.locs, Pt.cells, Pt.slots] at X99 l99 y99 z99 st99 hQ99
  rw [l99, y99, z99] at X99
  clear l99 y99 z99
  obtain ⟨rfl, rfl, e99⟩ := hQ99
  replace NF := Fr.app NF (Fr.nil n0)
  refine Gl.go ?_ st99
  show Gl _ _ _ _ (T99.setTop (mkF m 22 #[.val (.ref ns), .val (.ref b96), .val (.int (1 : Int32))] [(.ref (A 1)), (.int (1 : Int32)), (.ref b96)]))
  obtain ⟨cl100, Ar100, q100, S100, N100, Hh100, G100⟩ := V_b96
  obtain ⟨T100, h100, X100, e100, W100, st100⟩ := stR X99 hx hZ e99 Ar100 (j := (1 : Int32)) (inb_of S100 ⟨by decide, by decide⟩) rfl (Sto.ofV Ar100 q100 O96 (Ins.of_exa ((hE 1 (by decide)).ext OLD) (hw _ (List.mem_of_getElem? (i := 37) rfl)))) (g := (mkF m 22 #[.val (.ref ns), .val (.ref b96), .val (.int (1 : Int32))] [(.ref (A 1)), (.int (1 : Int32)), (.ref b96)])) rfl rfl (hb hby d4_22)
  replace OLD := own_owr OLD W100 sz_b96
  replace Z0 := Nat.le_trans Z0 (Keep.of_wr W100).1
  have V_b96 : Arv Z h100 b96 k96 (.object "java/lang/Object") (4 : Int32) [(.ref (A 0)), (.ref (A 1)), .null, .null] .null := Arv.set Ar100 q100 S100 N100 Hh100 G100 rfl W100 1 rfl (Nat.le_of_ble_eq_true rfl)
  clear Hh100 G100 N100 S100 q100 W100
  clear Ar100
  clear cl100
  replace NF := Fr.snoc X100 NF g_b96
  refine Gl.go ?_ st100
  show Gl _ _ _ _ (T100.setTop (mkF m 23 #[.val (.ref ns), .val (.ref b96), .val (.int (1 : Int32))] []))
  refine Gl.go ?_ (fun t k => XS.iinc X100.here hx rfl (hb hby d4_23) rfl (l' := #[.val (.ref ns), .val (.ref b96), .val (.int (2 : Int32))]) rfl k)
  show Gl _ _ _ _ (T100.setTop (mkF m 26 _ []))
  refine Gl.go ?_ (fun t k => XS.goto X100.here hx rfl (pc0 := 26) (pc' := 8) rfl (hb hby d4_26) (by decide) (by decide) k)
  show Gl _ _ _ _ (T100.setTop (mkF m 8 _ []))
  refine Gl.go ?_ (fun t k => XS.iloadN X100.here hx rfl (hb hby d4_8) rfl k)
  show Gl _ _ _ _ (T100.setTop (mkF m 9 _ [(.int (2 : Int32))]))
  refine Gl.go ?_ (fun t k => XS.aloadN X100.here hx rfl (hb hby d4_9) rfl rfl k)
  show Gl _ _ _ _ (T100.setTop (mkF m 10 #[.val (.ref ns), .val (.ref b96), .val (.int (2 : Int32))] [(.ref ns), (.int (2 : Int32))]))
  refine Gl.go ?_ (RA.len (hNS.ext OLD) X100 hx hZ e100 (g := (mkF m 10 #[.val (.ref ns), .val (.ref b96), .val (.int (2 : Int32))] [(.ref ns), (.int (2 : Int32))])) rfl rfl (hb hby d4_10))
  show Gl _ _ _ _ (T100.setTop (mkF m 11 _ [(.int (4 : Int32)), (.int (2 : Int32))]))
  refine Gl.go ?_ (fun t k => XS.icmpNo X100.here hx rfl (hb hby d4_11) rfl (tlt (by decide : (2 : Int32) < (4 : Int32))).2.1 k)
  show Gl _ _ _ _ (T100.setTop (mkF m 14 _ []))
  refine Gl.go ?_ (fun t k => XS.aloadN X100.here hx rfl (hb hby d4_14) rfl rfl k)
  show Gl _ _ _ _ (T100.setTop (mkF m 15 _ [(.ref b96)]))
  refine Gl.go ?_ (fun t k => XS.iloadN X100.here hx rfl (hb hby d4_15) rfl k)
  show Gl _ _ _ _ (T100.setTop (mkF m 16 _ [(.int (2 : Int32)), (.ref b96)]))
  refine Gl.go ?_ (fun t k => XS.aloadN X100.here hx rfl (hb hby d4_16) rfl rfl k)
  show Gl _ _ _ _ (T100.setTop (mkF m 17 _ [(.ref ns), (.int (2 : Int32)), (.ref b96)]))
  refine Gl.go ?_ (fun t k => XS.iloadN X100.here hx rfl (hb hby d4_17) rfl k)
  show Gl _ _ _ _ (T100.setTop (mkF m 18 #[.val (.ref ns), .val (.ref b96), .val (.int (2 : Int32))] [(.int (2 : Int32)), (.ref ns), (.int (2 : Int32)), (.ref b96)]))
  refine Gl.go ?_ (RA.rd (hNS.ext OLD) rfl X100 hx hZ e100 (by decide) (by decide) (g := (mkF m 18 #[.val (.ref ns), .val (.ref b96), .val (.int (2 : Int32))] [(.int (2 : Int32)), (.ref ns), (.int (2 : Int32)), (.ref b96)])) rfl rfl (hb hby d4_18))
  show Gl _ _ _ _ (T100.setTop (mkF m 19 #[.val (.ref ns), .val (.ref b96), .val (.int (2 : Int32))] [(.ref (A 2)), (.int (2 : Int32)), (.ref b96)]))
  obtain ⟨_, _, ⟨T101, L101, k101, n101⟩, -, X101, ⟨Lc101, hQ101, l101, y101, z101⟩, st101⟩ := Jvm.LawKit.callS X100 hx (y := (⟨"java/util/Objects", "requireNonNull", "(Ljava/lang/Object;)Ljava/lang/Object;"⟩ : MethodName)) hown (mvT hZ (hw _ (List.mem_of_getElem? (i := 33) rfl))) (mvT hZ (hw _ (List.mem_of_getElem? (i := 34) rfl))) (mvT hZ (hw _ (List.mem_of_getElem? (i := 35) rfl))) (mvT hZ (hw _ (List.mem_of_getElem? (i := 36) rfl))) (by decide) (backOf (W := 2) (rm5 l Z a0 hw [] (A 2) h100) hZ (hw _ (List.mem_of_getElem? (i := 36) rfl)) (hw _ (List.mem_of_getElem? (i := 35) rfl)) (by decide) (by decide)) (g := (mkF m 19 #[.val (.ref ns), .val (.ref b96), .val (.int (2 : Int32))] [(.ref (A 2)), (.int (2 : Int32)), (.ref b96)])) rfl (by rw [hml]; rfl) (argsL := [(.ref (A 2))]) (rest := [(.int (2 : Int32)), (.ref b96)]) (lenOf pd_2 rfl) rfl (by show 2 * 0 + _ ≤ _; exact Nat.le_of_eq rfl) (hb hby d4_19) (fun _ _ => ⟨rfl, e100, (by decide : 1 + 0 ≤ _), (by decide : 4 + 0 ≤ _)⟩)
  dsimp only [Pt.U, Pt.locs, Pt.cells, Pt.slots] at X101 l101 y101 z101 st101 hQ101
  rw [l101, y101, z101] at X101
  clear l101 y101 z101
  obtain ⟨rfl, rfl, e101⟩ := hQ101
  replace NF := Fr.app NF (Fr.nil n0)
  refine Gl.go ?_ st101
  show Gl _ _ _ _ (T101.setTop (mkF m 22 #[.val (.ref ns), .val (.ref b96), .val (.int (2 : Int32))] [(.ref (A 2)), (.int (2 : Int32)), (.ref b96)]))
  obtain ⟨cl102, Ar102, q102, S102, N102, Hh102, G102⟩ := V_b96
  obtain ⟨T102, h102, X102, e102, W102, st102⟩ := stR X101 hx hZ e101 Ar102 (j := (2 : Int32)) (inb_of S102 ⟨by decide, by decide⟩) rfl (Sto.ofV Ar102 q102 O96 (Ins.of_exa ((hE 2 (by decide)).ext OLD) (hw _ (List.mem_of_getElem? (i := 37) rfl)))) (g := (mkF m 22 #[.val (.ref ns), .val (.ref b96), .val (.int (2 : Int32))] [(.ref (A 2)), (.int (2 : Int32)), (.ref b96)])) rfl rfl (hb hby d4_22)
  replace OLD := own_owr OLD W102 sz_b96
  replace Z0 := Nat.le_trans Z0 (Keep.of_wr W102).1
  have V_b96 : Arv Z h102 b96 k96 (.object "java/lang/Object") (4 : Int32) [(.ref (A 0)), (.ref (A 1)), (.ref (A 2)), .null] .null := Arv.set Ar102 q102 S102 N102 Hh102 G102 rfl W102 2 rfl (Nat.le_of_ble_eq_true rfl)
  clear Hh102 G102 N102 S102 q102 W102
  clear Ar102
  clear cl102
  replace NF := Fr.snoc X102 NF g_b96
  refine Gl.go ?_ st102
  show Gl _ _ _ _ (T102.setTop (mkF m 23 #[.val (.ref ns), .val (.ref b96), .val (.int (2 : Int32))] []))
  refine Gl.go ?_ (fun t k => XS.iinc X102.here hx rfl (hb hby d4_23) rfl (l' := #[.val (.ref ns), .val (.ref b96), .val (.int (3 : Int32))]) rfl k)
  show Gl _ _ _ _ (T102.setTop (mkF m 26 _ []))
  refine Gl.go ?_ (fun t k => XS.goto X102.here hx rfl (pc0 := 26) (pc' := 8) rfl (hb hby d4_26) (by decide) (by decide) k)
  show Gl _ _ _ _ (T102.setTop (mkF m 8 _ []))
  refine Gl.go ?_ (fun t k => XS.iloadN X102.here hx rfl (hb hby d4_8) rfl k)
  show Gl _ _ _ _ (T102.setTop (mkF m 9 _ [(.int (3 : Int32))]))
  refine Gl.go ?_ (fun t k => XS.aloadN X102.here hx rfl (hb hby d4_9) rfl rfl k)
  show Gl _ _ _ _ (T102.setTop (mkF m 10 #[.val (.ref ns), .val (.ref b96), .val (.int (3 : Int32))] [(.ref ns), (.int (3 : Int32))]))
  refine Gl.go ?_ (RA.len (hNS.ext OLD) X102 hx hZ e102 (g := (mkF m 10 #[.val (.ref ns), .val (.ref b96), .val (.int (3 : Int32))] [(.ref ns), (.int (3 : Int32))])) rfl rfl (hb hby d4_10))
  show Gl _ _ _ _ (T102.setTop (mkF m 11 _ [(.int (4 : Int32)), (.int (3 : Int32))]))
  refine Gl.go ?_ (fun t k => XS.icmpNo X102.here hx rfl (hb hby d4_11) rfl (tlt (by decide : (3 : Int32) < (4 : Int32))).2.1 k)
  show Gl _ _ _ _ (T102.setTop (mkF m 14 _ []))
  refine Gl.go ?_ (fun t k => XS.aloadN X102.here hx rfl (hb hby d4_14) rfl rfl k)
  show Gl _ _ _ _ (T102.setTop (mkF m 15 _ [(.ref b96)]))
  refine Gl.go ?_ (fun t k => XS.iloadN X102.here hx rfl (hb hby d4_15) rfl k)
  show Gl _ _ _ _ (T102.setTop (mkF m 16 _ [(.int (3 : Int32)), (.ref b96)]))
  refine Gl.go ?_ (fun t k => XS.aloadN X102.here hx rfl (hb hby d4_16) rfl rfl k)
  show Gl _ _ _ _ (T102.setTop (mkF m 17 _ [(.ref ns), (.int (3 : Int32)), (.ref b96)]))
  refine Gl.go ?_ (fun t k => XS.iloadN X102.here hx rfl (hb hby d4_17) rfl k)
  show Gl _ _ _ _ (T102.setTop (mkF m 18 #[.val (.ref ns), .val (.ref b96), .val (.int (3 : Int32))] [(.int (3 : Int32)), (.ref ns), (.int (3 : Int32)), (.ref b96)]))
  refine Gl.go ?_ (RA.rd (hNS.ext OLD) rfl X102 hx hZ e102 (by decide) (by decide) (g := (mkF m 18 #[.val (.ref ns), .val (.ref b96), .val (.int (3 : Int32))] [(.int (3 : Int32)), (.ref ns), (.int (3 : Int32)), (.ref b96)])) rfl rfl (hb hby d4_18))
  show Gl _ _ _ _ (T102.setTop (mkF m 19 #[.val (.ref ns), .val (.ref b96), .val (.int (3 : Int32))] [(.ref (A 3)), (.int (3 : Int32)), (.ref b96)]))
  obtain ⟨_, _, ⟨T103, L103, k103, n103⟩, -, X103, ⟨Lc103, hQ103, l103, y103, z103⟩, st103⟩ := Jvm.LawKit.callS X102 hx (y := (⟨"java/util/Objects", "requireNonNull", "(Ljava/lang/Object;)Ljava/lang/Object;"⟩ : MethodName)) hown (mvT hZ (hw _ (List.mem_of_getElem? (i := 33) rfl))) (mvT hZ (hw _ (List.mem_of_getElem? (i := 34) rfl))) (mvT hZ (hw _ (List.mem_of_getElem? (i := 35) rfl))) (mvT hZ (hw _ (List.mem_of_getElem? (i := 36) rfl))) (by decide) (backOf (W := 2) (rm5 l Z a0 hw [] (A 3) h102) hZ (hw _ (List.mem_of_getElem? (i := 36) rfl)) (hw _ (List.mem_of_getElem? (i := 35) rfl)) (by decide) (by decide)) (g := (mkF m 19 #[.val (.ref ns), .val (.ref b96), .val (.int (3 : Int32))] [(.ref (A 3)), (.int (3 : Int32)), (.ref b96)])) rfl (by rw [hml]; rfl) (argsL := [(.ref (A 3))]) (rest := [(.int (3 : Int32)), (.ref b96)]) (lenOf pd_2 rfl) rfl (by show 2 * 0 + _ ≤ _; exact Nat.le_of_eq rfl) (hb hby d4_19) (fun _ _ => ⟨rfl, e102, (by decide : 1 + 0 ≤ _), (by decide : 4 + 0 ≤ _)⟩)
  dsimp only [Pt.U, Pt.locs, Pt.cells, Pt.slots] at X103 l103 y103 z103 st103 hQ103
  rw [l103, y103, z103] at X103
  clear l103 y103 z103
  obtain ⟨rfl, rfl, e103⟩ := hQ103
  replace NF := Fr.app NF (Fr.nil n0)
  refine Gl.go ?_ st103
  show Gl _ _ _ _ (T103.setTop (mkF m 22 #[.val (.ref ns), .val (.ref b96), .val (.int (3 : Int32))] [(.ref (A 3)), (.int (3 : Int32)), (.ref b96)]))
  obtain ⟨cl104, Ar104, q104, S104, N104, Hh104, G104⟩ := V_b96
  obtain ⟨T104, h104, X104, e104, W104, st104⟩ := stR X103 hx hZ e103 Ar104 (j := (3 : Int32)) (inb_of S104 ⟨by decide, by decide⟩) rfl (Sto.ofV Ar104 q104 O96 (Ins.of_exa ((hE 3 (by decide)).ext OLD) (hw _ (List.mem_of_getElem? (i := 37) rfl)))) (g := (mkF m 22 #[.val (.ref ns), .val (.ref b96), .val (.int (3 : Int32))] [(.ref (A 3)), (.int (3 : Int32)), (.ref b96)])) rfl rfl (hb hby d4_22)
  replace OLD := own_owr OLD W104 sz_b96
  replace Z0 := Nat.le_trans Z0 (Keep.of_wr W104).1
  have V_b96 : Arv Z h104 b96 k96 (.object "java/lang/Object") (4 : Int32) [(.ref (A 0)), (.ref (A 1)), (.ref (A 2)), (.ref (A 3))] .null := Arv.set Ar104 q104 S104 N104 Hh104 G104 rfl W104 3 rfl (Nat.le_of_ble_eq_true rfl)
  clear Hh104 G104 N104 S104 q104 W104
  clear Ar104
  clear cl104
  replace NF := Fr.snoc X104 NF g_b96
  refine Gl.go ?_ st104
  show Gl _ _ _ _ (T104.setTop (mkF m 23 #[.val (.ref ns), .val (.ref b96), .val (.int (3 : Int32))] []))
  refine Gl.go ?_ (fun t k => XS.iinc X104.here hx rfl (hb hby d4_23) rfl (l' := #[.val (.ref ns), .val (.ref b96), .val (.int (4 : Int32))]) rfl k)
  show Gl _ _ _ _ (T104.setTop (mkF m 26 _ []))
  refine Gl.go ?_ (fun t k => XS.goto X104.here hx rfl (pc0 := 26) (pc' := 8) rfl (hb hby d4_26) (by decide) (by decide) k)
  show Gl _ _ _ _ (T104.setTop (mkF m 8 _ []))
  refine Gl.go ?_ (fun t k => XS.iloadN X104.here hx rfl (hb hby d4_8) rfl k)
  show Gl _ _ _ _ (T104.setTop (mkF m 9 _ [(.int (4 : Int32))]))
  refine Gl.go ?_ (fun t k => XS.aloadN X104.here hx rfl (hb hby d4_9) rfl rfl k)
  show Gl _ _ _ _ (T104.setTop (mkF m 10 #[.val (.ref ns), .val (.ref b96), .val (.int (4 : Int32))] [(.ref ns), (.int (4 : Int32))]))
  refine Gl.go ?_ (RA.len (hNS.ext OLD) X104 hx hZ e104 (g := (mkF m 10 #[.val (.ref ns), .val (.ref b96), .val (.int (4 : Int32))] [(.ref ns), (.int (4 : Int32))])) rfl rfl (hb hby d4_10))
  show Gl _ _ _ _ (T104.setTop (mkF m 11 _ [(.int (4 : Int32)), (.int (4 : Int32))]))
  refine Gl.go ?_ (fun t k => XS.icmpYes X104.here hx rfl (pc0 := 11) (pc' := 29) rfl (hb hby d4_11) rfl (flt (by decide : ¬ ((4 : Int32) < (4 : Int32)))).2.1 (by decide) (by decide) k)
  show Gl _ _ _ _ (T104.setTop (mkF m 29 #[.val (.ref ns), .val (.ref b96), .val (.int (4 : Int32))] []))
  obtain ⟨T105, h105, X105, e105, E105, A105, D105, -, st105⟩ := newO X104 hx hZ hown (hw _ (List.mem_of_getElem? (i := 38) rfl)) (hw _ (List.mem_of_getElem? (i := 39) rfl)) (hw _ (List.mem_of_getElem? (i := 40) rfl)) e104 (g := (mkF m 29 #[.val (.ref ns), .val (.ref b96), .val (.int (4 : Int32))] [])) rfl (hb hby d4_29) (by decide) (by decide)
  obtain ⟨b105, g105⟩ : ∃ z, z = h104.size := ⟨_, rfl⟩
  rw [← g105] at A105 D105 st105
  have g_b105 : n0 ≤ b105 := Nat.le_trans Z0 (Nat.le_of_eq g105.symm)
  have ne_b96_b105 : b96 ≠ b105 := Nat.ne_of_lt (Nat.lt_of_lt_of_le V_b96.lt (Nat.le_of_eq g105.symm))
  have sz_b105 : (h0).size ≤ b105 := Nat.le_trans OLD.1 (Nat.le_of_eq g105.symm)
  replace OLD := own_oext OLD E105
  replace V_b96 := V_b96.ext E105
  replace Z0 := Nat.le_trans Z0 E105.1
  have E_b105 := A105
  have F_elements_b105 : Fld Z h105 b105 "java/util/ImmutableCollections$ListN" "elements" "[Ljava/lang/Object;" .null := D105 (Or.inr (hw _ (List.mem_of_getElem? (i := 67) rfl))) (ty := (.array (.object "java/lang/Object"))) (by decide)
  have F_allowNulls_b105 : Fld Z h105 b105 "java/util/ImmutableCollections$ListN" "allowNulls" "Z" (.int (0 : Int32)) := D105 (Or.inr (hw _ (List.mem_of_getElem? (i := 69) rfl))) (ty := .boolean) (by decide)
  refine Gl.go ?_ st105
  show Gl _ _ _ _ (T105.setTop (mkF m 32 _ [(.ref b105)]))
  refine Gl.go ?_ (fun t k => XS.dup X105.here hx rfl (hb hby d4_32) rfl rfl k)
  show Gl _ _ _ _ (T105.setTop (mkF m 33 _ [(.ref b105), (.ref b105)]))
  refine Gl.go ?_ (fun t k => XS.aloadN X105.here hx rfl (hb hby d4_33) rfl rfl k)
  show Gl _ _ _ _ (T105.setTop (mkF m 34 _ [(.ref b96), (.ref b105), (.ref b105)]))
  refine Gl.go ?_ (fun t k => XS.iconst X105.here hx rfl (hb hby d4_34) k)
  show Gl _ _ _ _ (T105.setTop (mkF m 35 #[.val (.ref ns), .val (.ref b96), .val (.int (4 : Int32))] [(.int (0 : Int32)), (.ref b96), (.ref b105), (.ref b105)]))
  obtain ⟨_, _, ⟨T106, L106, k106, n106⟩, -, X106, ⟨Lc106, hQ106, l106, y106, z106⟩, st106⟩ := X105.specialBackNest hx (y := (⟨"java/util/ImmutableCollections$ListN", "<init>", "([Ljava/lang/Object;Z)V"⟩ : MethodName)) rfl hown (own_mvM hZ (hw _ (List.mem_of_getElem? (i := 41) rfl))) (mvT hZ (hw _ (List.mem_of_getElem? (i := 42) rfl))) (mvT hZ (hw _ (List.mem_of_getElem? (i := 44) rfl))) (by decide) (backOf (W := 1) (rm6 l Z a0 hw [] b105 b96  _ _ h105 n0 Z0 E_b105 g_b105 F_elements_b105 F_allowNulls_b105 ) hZ (hw _ (List.mem_of_getElem? (i := 44) rfl)) (hw _ (List.mem_of_getElem? (i := 40) rfl)) (by decide) (by decide)) (g := (mkF m 35 #[.val (.ref ns), .val (.ref b96), .val (.int (4 : Int32))] [(.int (0 : Int32)), (.ref b96), (.ref b105), (.ref b105)])) rfl (by rw [hml]; rfl) (Steps.refl _) (a := b105) (argsL := [(.ref b96), (.int (0 : Int32))]) (rest := [(.ref b105)]) (lenOf pd_6 rfl) rfl (by show 2 * 0 + _ ≤ _; exact Nat.le_of_eq rfl) (hb hby d4_35) (fun _ _ => ⟨rfl, e105, (by decide : 2 + 0 ≤ _), (by decide : 6 + 0 ≤ _)⟩)
  dsimp only [Pt.U, Pt.locs, Pt.cells, Pt.slots] at X106 l106 y106 z106 st106 hQ106
  rw [l106, y106, z106] at X106
  clear l106 y106 z106
  obtain ⟨N106q, rfl, K106, ec106, f106_elements, f106_allowNulls⟩ := hQ106
  replace NF := Fr.app NF N106q
  replace OLD := own_okeep OLD K106 (fun y hy => by cases List.mem_singleton.mp hy; exact sz_b105)
  replace V_b96 := V_b96.keep K106 (ninS ne_b96_b105 nin0)
  replace Z0 := Nat.le_trans Z0 K106.1
  replace E_b105 := ec106
  replace F_elements_b105 := f106_elements
  replace F_allowNulls_b105 := f106_allowNulls
  refine Gl.tr ?_ st106
  show Gl _ _ _ _ (T106.setTop (mkF m 38 _ [(.ref b105)]))
  obtain ⟨fs, hr, hrun, hended, hW, hsame⟩ := X106.leave (v := some (.ref b105)) (fun h => by rw [Bd.returns] at h; cases h) (BodyLoose.notSynchronized Bd)
  exact Gl.mk ⟨_, _, retOut X106 hx Bd.returns rfl (Or.inr (Or.inr (Or.inr (Or.inr ⟨rfl, rfl, rfl⟩)))) (hb hby d4_38) hr, hrun, hended, _, _, rfl, own_cast (P := fun H v L => QLO Z 4 A h0 n0 v H L) rfl ⟨NF, ⟨b105, rfl, OLD, Or.inr ⟨by decide, by decide, ⟨sz_b105, E_b105.lt⟩, E_b105, F_allowNulls_b105, b96, ⟨sz_b96, V_b96.lt⟩, F_elements_b105, RA.of V_b96 4 rfl (own_lt4 rfl rfl rfl rfl)⟩⟩⟩, ⟨_, rfl⟩, hW, hsame.mono (by decide) (by decide)⟩
theorem ef_rm_lfa_5 (m : MethodId) (x0 : Addr) : entryFrame m #[(.ref x0)] 3 = mkF m 0 #[.val (.ref x0), .unset, .unset] [] := by first | (simp [entryFrame, mkF, argsToLocals, Value.category]; done) | rfl
set_option maxRecDepth 65536 in
set_option maxHeartbeats 40000000 in
theorem rm_lfa_5 (l : Launch) (Z : State) (a0 : Array Value) (hw : ∀ d ∈ tables_1, d.before a0 Z = true) (ws : List Jvm.Cond) (ns : Addr) (A : Nat → Addr) (h0 : Heap) (n0 : Nat) (Z0 : n0 ≤ h0.size) (hNS : RA Z h0 ns (.object "java/lang/String") (5 : Int32) A) (hE : ∀ i, i < 5 → Exa Z h0 (A i) "java/lang/String") :
    MetFree l (⟨"java/util/ImmutableCollections", "listFromArray", "([Ljava/lang/Object;)Ljava/util/List;"⟩ : MethodName) (head1 (Jvm.Cond.code (⟨"java/util/ImmutableCollections", "listFromArray", "([Ljava/lang/Object;)Ljava/util/List;"⟩ : MethodName) jdk_56_method_4_code 3 (some (.object "java/util/List")) :: ws) ({ frames := 5, cells := 2, slots := 7, locals := 63 } : Room)) (fun aQ U => aQ = #[(.ref ns)] ∧ Z.Warmed39 U.vm ∧ U.heap = h0) (fun _ _ _ _ _ => True) (fun _ U o U' => ∃ vQ LQ, o = .returned vQ ∧ QLO Z 5 A h0 n0 vQ U'.heap LQ ∧ FrameEnd U o U' LQ ({ frames := 5, cells := 2, slots := 7, locals := 63 } : Room).cells ({ frames := 5, cells := 2, slots := 7, locals := 63 } : Room).slots) := by
  refine MetFree.of_bodySF (plainFor_of_name pn_4) hisR ?_
  intro p e s m args below meth c s₁ Bd hml0 hP hK
  obtain ⟨rfl, hZ, hh⟩ := hP
  have hx := Bd.exec
  have hby := Bd.bytes
  have hml : c.maxLocals = 3 := hml0
  have hown : s.vm.findClass "java/util/ImmutableCollections" = some m.cls := findClass_of_methodNamed Bd.named
  have hnm := (name_of_methodNamed Bd.named Bd.method).1
  have X0 : Stand p l e ({ frames := 5, cells := 2, slots := 7, locals := 63 } : Room) s m #[(.ref ns)] below meth c s₁ [] 0 0 := Stand.of_body Bd
  have e0 : s₁.heap = h0 := by rw [← hh, Bd.state]; rfl
  have NF := Fr.nil n0
  have OLD : Ext h0 h0 := own_erefl h0
  refine Gl.out ?_
  refine Gl.go ?_ (fun t k => castTop (ef_rm_lfa_5 m ns) k)
  show Gl _ _ _ _ (s₁.setTop (mkF m 0 _ []))
  refine Gl.go ?_ (fun t k => XS.aloadN X0.here hx rfl (hb hby d4_0) rfl rfl k)
  show Gl _ _ _ _ (s₁.setTop (mkF m 1 #[.val (.ref ns), .unset, .unset] [(.ref ns)]))
  refine Gl.go ?_ (RA.len (hNS.ext OLD) X0 hx hZ e0 (g := (mkF m 1 #[.val (.ref ns), .unset, .unset] [(.ref ns)])) rfl rfl (hb hby d4_1))
  show Gl _ _ _ _ (s₁.setTop (mkF m 2 #[.val (.ref ns), .unset, .unset] [(.int (5 : Int32))]))
  obtain ⟨T107, h107, k107, X107, e107, E107, A107, O107, st107⟩ := newR X0 hx hZ hown (hw _ (List.mem_of_getElem? (i := 31) rfl)) (hw _ (List.mem_of_getElem? (i := 32) rfl)) e0 (g := (mkF m 2 #[.val (.ref ns), .unset, .unset] [(.int (5 : Int32))])) rfl (hb hby d4_2) rfl (by decide) (cap := 5) (by decide) (by decide) (by decide) (by decide)
  obtain ⟨b107, g107⟩ : ∃ z, z = h0.size := ⟨_, rfl⟩
  rw [← g107] at A107 st107
  have g_b107 : n0 ≤ b107 := Nat.le_trans Z0 (Nat.le_of_eq g107.symm)
  have sz_b107 : (h0).size ≤ b107 := Nat.le_trans OLD.1 (Nat.le_of_eq g107.symm)
  replace OLD := own_oext OLD E107
  replace Z0 := Nat.le_trans Z0 E107.1
  have V_b107 : Arv Z h107 b107 k107 (.object "java/lang/Object") (5 : Int32) [.null, .null, .null, .null, .null] .null := (Arv.new A107 (by decide)).pad (pad_rep [] .null 5)
  refine Gl.go ?_ st107
  show Gl _ _ _ _ (T107.setTop (mkF m 5 #[.val (.ref ns), .unset, .unset] [(.ref b107)]))
  refine Gl.go ?_ (fun t k => XS.astoreN X107.here hx rfl (hb hby d4_5) rfl rfl (l' := #[.val (.ref ns), .val (.ref b107), .unset]) rfl k)
  show Gl _ _ _ _ (T107.setTop (mkF m 6 _ []))
  refine Gl.go ?_ (fun t k => XS.iconst X107.here hx rfl (hb hby d4_6) k)
  show Gl _ _ _ _ (T107.setTop (mkF m 7 #[.val (.ref ns), .val (.ref b107), .unset] [(.int (0 : Int32))]))
  refine Gl.go ?_ (fun t k => XS.istoreN X107.here hx rfl (hb hby d4_7) rfl (l' := #[.val (.ref ns), .val (.ref b107), .val (.int (0 : Int32))]) rfl k)
  show Gl _ _ _ _ (T107.setTop (mkF m 8 _ []))
  refine Gl.go ?_ (fun t k => XS.iloadN X107.here hx rfl (hb hby d4_8) rfl k)
  show Gl _ _ _ _ (T107.setTop (mkF m 9 _ [(.int (0 : Int32))]))
  refine Gl.go ?_ (fun t k => XS.aloadN X107.here hx rfl (hb hby d4_9) rfl rfl k)
  show Gl _ _ _ _ (T107.setTop (mkF m 10 #[.val (.ref ns), .val (.ref b107), .val (.int (0 : Int32))] [(.ref ns), (.int (0 : Int32))]))
  refine Gl.go ?_ (RA.len (hNS.ext OLD) X107 hx hZ e107 (g := (mkF m 10 #[.val (.ref ns), .val (.ref b107), .val (.int (0 : Int32))] [(.ref ns), (.int (0 : Int32))])) rfl rfl (hb hby d4_10))
  show Gl _ _ _ _ (T107.setTop (mkF m 11 _ [(.int (5 : Int32)), (.int (0 : Int32))]))
  refine Gl.go ?_ (fun t k => XS.icmpNo X107.here hx rfl (hb hby d4_11) rfl (tlt (by decide : (0 : Int32) < (5 : Int32))).2.1 k)
  show Gl _ _ _ _ (T107.setTop (mkF m 14 _ []))
  refine Gl.go ?_ (fun t k => XS.aloadN X107.here hx rfl (hb hby d4_14) rfl rfl k)
  show Gl _ _ _ _ (T107.setTop (mkF m 15 _ [(.ref b107)]))
  refine Gl.go ?_ (fun t k => XS.iloadN X107.here hx rfl (hb hby d4_15) rfl k)
  show Gl _ _ _ _ (T107.setTop (mkF m 16 _ [(.int (0 : Int32)), (.ref b107)]))
  refine Gl.go ?_ (fun t k => XS.aloadN X107.here hx rfl (hb hby d4_16) rfl rfl k)
  show Gl _ _ _ _ (T107.setTop (mkF m 17 _ [(.ref ns), (.int (0 : Int32)), (.ref b107)]))
  refine Gl.go ?_ (fun t k => XS.iloadN X107.here hx rfl (hb hby d4_17) rfl k)
  show Gl _ _ _ _ (T107.setTop (mkF m 18 #[.val (.ref ns), .val (.ref b107), .val (.int (0 : Int32))] [(.int (0 : Int32)), (.ref ns), (.int (0 : Int32)), (.ref b107)]))
  refine Gl.go ?_ (RA.rd (hNS.ext OLD) rfl X107 hx hZ e107 (by decide) (by decide) (g := (mkF m 18 #[.val (.ref ns), .val (.ref b107), .val (.int (0 : Int32))] [(.int (0 : Int32)), (.ref ns), (.int (0 : Int32)), (.ref b107)])) rfl rfl (hb hby d4_18))
  show Gl _ _ _ _ (T107.setTop (mkF m 19 #[.val (.ref ns), .val (.ref b107), .val (.int (0 : Int32))] [(.ref (A 0)), (.int (0 : Int32)), (.ref b107)]))
  obtain ⟨_, _, ⟨T108, L108, k108, n108⟩, -, X108, ⟨Lc108, hQ108, l108, y108, z108⟩, st108⟩ := Jvm.LawKit.callS X107 hx (y := (⟨"java/util/Objects", "requireNonNull", "(Ljava/lang/Object;)Ljava/lang/Object;"⟩ : MethodName)) hown (mvT hZ (hw _ (List.mem_of_getElem? (i := 33) rfl))) (mvT hZ (hw _ (List.mem_of_getElem? (i := 34) rfl))) (mvT hZ (hw _ (List.mem_of_getElem? (i := 35) rfl))) (mvT hZ (hw _ (List.mem_of_getElem? (i := 36) rfl))) (by decide) (backOf (W := 2) (rm5 l Z a0 hw [] (A 0) h107) hZ (hw _ (List.mem_of_getElem? (i := 36) rfl)) (hw _ (List.mem_of_getElem? (i := 35) rfl)) (by decide) (by decide)) (g := (mkF m 19 #[.val (.ref ns), .val (.ref b107), .val (.int (0 : Int32))] [(.ref (A 0)), (.int (0 : Int32)), (.ref b107)])) rfl (by rw [hml]; rfl) (argsL := [(.ref (A 0))]) (rest := [(.int (0 : Int32)), (.ref b107)]) (lenOf pd_2 rfl) rfl (by show 2 * 0 + _ ≤ _; exact Nat.le_of_eq rfl) (hb hby d4_19) (fun _ _ => ⟨rfl, e107, (by decide : 1 + 0 ≤ _), (by decide : 5 + 0 ≤ _)⟩)
  dsimp only [Pt.U, Pt.locs, Pt.cells, Pt.slots] at X108 l108 y108 z108 st108 hQ108
  rw [l108, y108, z108] at X108
  clear l108 y108 z108
  obtain ⟨rfl, rfl, e108⟩ := hQ108
  replace NF := Fr.app NF (Fr.nil n0)
  refine Gl.go ?_ st108
  show Gl _ _ _ _ (T108.setTop (mkF m 22 #[.val (.ref ns), .val (.ref b107), .val (.int (0 : Int32))] [(.ref (A 0)), (.int (0 : Int32)), (.ref b107)]))
  obtain ⟨cl109, Ar109, q109, S109, N109, Hh109, G109⟩ := V_b107
  obtain ⟨T109, h109, X109, e109, W109, st109⟩ := stR X108 hx hZ e108 Ar109 (j := (0 : Int32)) (inb_of S109 ⟨by decide, by decide⟩) rfl (Sto.ofV Ar109 q109 O107 (Ins.of_exa ((hE 0 (by decide)).ext OLD) (hw _ (List.mem_of_getElem? (i := 37) rfl)))) (g := (mkF m 22 #[.val (.ref ns), .val (.ref b107), .val (.int (0 : Int32))] [(.ref (A 0)), (.int (0 : Int32)), (.ref b107)])) rfl rfl (hb hby d4_22)
  replace OLD := own_owr OLD W109 sz_b107
  replace Z0 := Nat.le_trans Z0 (Keep.of_wr W109).1
  have V_b107 : Arv Z h109 b107 k107 (.object "java/lang/Object") (5 : Int32) [(.ref (A 0)), .null, .null, .null, .null] .null := Arv.set Ar109 q109 S109 N109 Hh109 G109 rfl W109 0 rfl (Nat.le_of_ble_eq_true rfl)
  clear Hh109 G109 N109 S109 q109 W109
  clear Ar109
  clear cl109
  replace NF := Fr.snoc X109 NF g_b107
  refine Gl.go ?_ st109
  show Gl _ _ _ _ (T109.setTop (mkF m 23 #[.val (.ref ns), .val (.ref b107), .val (.int (0 : Int32))] []))
  refine Gl.go ?_ (fun t k => XS.iinc X109.here hx rfl (hb hby d4_23) rfl (l' := #[.val (.ref ns), .val (.ref b107), .val (.int (1 : Int32))]) rfl k)
  show Gl _ _ _ _ (T109.setTop (mkF m 26 _ []))
  refine Gl.go ?_ (fun t k => XS.goto X109.here hx rfl (pc0 := 26) (pc' := 8) rfl (hb hby d4_26) (by decide) (by decide) k)
  show Gl _ _ _ _ (T109.setTop (mkF m 8 _ []))
  refine Gl.go ?_ (fun t k => XS.iloadN X109.here hx rfl (hb hby d4_8) rfl k)
  show Gl _ _ _ _ (T109.setTop (mkF m 9 _ [(.int (1 : Int32))]))
  refine Gl.go ?_ (fun t k => XS.aloadN X109.here hx rfl (hb hby d4_9) rfl rfl k)
  show Gl _ _ _ _ (T109.setTop (mkF m 10 #[.val (.ref ns), .val (.ref b107), .val (.int (1 : Int32))] [(.ref ns), (.int (1 : Int32))]))
  refine Gl.go ?_ (RA.len (hNS.ext OLD) X109 hx hZ e109 (g := (mkF m 10 #[.val (.ref ns), .val (.ref b107), .val (.int (1 : Int32))] [(.ref ns), (.int (1 : Int32))])) rfl rfl (hb hby d4_10))
  show Gl _ _ _ _ (T109.setTop (mkF m 11 _ [(.int (5 : Int32)), (.int (1 : Int32))]))
  refine Gl.go ?_ (fun t k => XS.icmpNo X109.here hx rfl (hb hby d4_11) rfl (tlt (by decide : (1 : Int32) < (5 : Int32))).2.1 k)
  show Gl _ _ _ _ (T109.setTop (mkF m 14 _ []))
  refine Gl.go ?_ (fun t k => XS.aloadN X109.here hx rfl (hb hby d4_14) rfl rfl k)
  show Gl _ _ _ _ (T109.setTop (mkF m 15 _ [(.ref b107)]))
  refine Gl.go ?_ (fun t k => XS.iloadN X109.here hx rfl (hb hby d4_15) rfl k)
  show Gl _ _ _ _ (T109.setTop (mkF m 16 _ [(.int (1 : Int32)), (.ref b107)]))
  refine Gl.go ?_ (fun t k => XS.aloadN X109.here hx rfl (hb hby d4_16) rfl rfl k)
  show Gl _ _ _ _ (T109.setTop (mkF m 17 _ [(.ref ns), (.int (1 : Int32)), (.ref b107)]))
  refine Gl.go ?_ (fun t k => XS.iloadN X109.here hx rfl (hb hby d4_17) rfl k)
  show Gl _ _ _ _ (T109.setTop (mkF m 18 #[.val (.ref ns), .val (.ref b107), .val (.int (1 : Int32))] [(.int (1 : Int32)), (.ref ns), (.int (1 : Int32)), (.ref b107)]))
  refine Gl.go ?_ (RA.rd (hNS.ext OLD) rfl X109 hx hZ e109 (by decide) (by decide) (g := (mkF m 18 #[.val (.ref ns), .val (.ref b107), .val (.int (1 : Int32))] [(.int (1 : Int32)), (.ref ns), (.int (1 : Int32)), (.ref b107)])) rfl rfl (hb hby d4_18))
  show Gl _ _ _ _ (T109.setTop (mkF m 19 #[.val (.ref ns), .val (.ref b107), .val (.int (1 : Int32))] [(.ref (A 1)), (.int (1 : Int32)), (.ref b107)]))
  obtain ⟨_, _, ⟨T110, L110, k110, n110⟩, -, X110, ⟨Lc110, hQ110, l110, y110, z110⟩, st110⟩ := Jvm.LawKit.callS X109 hx (y := (⟨"java/util/Objects", "requireNonNull", "(Ljava/lang/Object;)Ljava/lang/Object;"⟩ : MethodName)) hown (mvT hZ (hw _ (List.mem_of_getElem? (i := 33) rfl))) (mvT hZ (hw _ (List.mem_of_getElem? (i := 34) rfl))) (mvT hZ (hw _ (List.mem_of_getElem? (i := 35) rfl))) (mvT hZ (hw _ (List.mem_of_getElem? (i := 36) rfl))) (by decide) (backOf (W := 2) (rm5 l Z a0 hw [] (A 1) h109) hZ (hw _ (List.mem_of_getElem? (i := 36) rfl)) (hw _ (List.mem_of_getElem? (i := 35) rfl)) (by decide) (by decide)) (g := (mkF m 19 #[.val (.ref ns), .val (.ref b107), .val (.int (1 : Int32))] [(.ref (A 1)), (.int (1 : Int32)), (.ref b107)])) rfl (by rw [hml]; rfl) (argsL := [(.ref (A 1))]) (rest := [(.int (1 : Int32)), (.ref b107)]) (lenOf pd_2 rfl) rfl (by show 2 * 0 + _ ≤ _; exact Nat.le_of_eq rfl) (hb hby d4_19) (fun _ _ => ⟨rfl, e109, (by decide : 1 + 0 ≤ _), (by decide : 5 + 0 ≤ _)⟩)
  dsimp only [Pt.U, Pt.locs, Pt.cells, Pt.slots] at X110 l110 y110 z110 st110 hQ110
  rw [l110, y110, z110] at X110
  clear l110 y110 z110
  obtain ⟨rfl, rfl, e110⟩ := hQ110
  replace NF := Fr.app NF (Fr.nil n0)
  refine Gl.go ?_ st110
  show Gl _ _ _ _ (T110.setTop (mkF m 22 #[.val (.ref ns), .val (.ref b107), .val (.int (1 : Int32))] [(.ref (A 1)), (.int (1 : Int32)), (.ref b107)]))
  obtain ⟨cl111, Ar111, q111, S111, N111, Hh111, G111⟩ := V_b107
  obtain ⟨T111, h111, X111, e111, W111, st111⟩ := stR X110 hx hZ e110 Ar111 (j := (1 : Int32)) (inb_of S111 ⟨by decide, by decide⟩) rfl (Sto.ofV Ar111 q111 O107 (Ins.of_exa ((hE 1 (by decide)).ext OLD) (hw _ (List.mem_of_getElem? (i := 37) rfl)))) (g := (mkF m 22 #[.val (.ref ns), .val (.ref b107), .val (.int (1 : Int32))] [(.ref (A 1)), (.int (1 : Int32)), (.ref b107)])) rfl rfl (hb hby d4_22)
  replace OLD := own_owr OLD W111 sz_b107
  replace Z0 := Nat.le_trans Z0 (Keep.of_wr W111).1
  have V_b107 : Arv Z h111 b107 k107 (.object "java/lang/Object") (5 : Int32) [(.ref (A 0)), (.ref (A 1)), .null, .null, .null] .null := Arv.set Ar111 q111 S111 N111 Hh111 G111 rfl W111 1 rfl (Nat.le_of_ble_eq_true rfl)
  clear Hh111 G111 N111 S111 q111 W111
  clear Ar111
  clear cl111
  replace NF := Fr.snoc X111 NF g_b107
  refine Gl.go ?_ st111
  show Gl _ _ _ _ (T111.setTop (mkF m 23 #[.val (.ref ns), .val (.ref b107), .val (.int (1 : Int32))] []))
  refine Gl.go ?_ (fun t k => XS.iinc X111.here hx rfl (hb hby d4_23) rfl (l' := #[.val (.ref ns), .val (.ref b107), .val (.int (2 : Int32))]) rfl k)
  show Gl _ _ _ _ (T111.setTop (mkF m 26 _ []))
  refine Gl.go ?_ (fun t k => XS.goto X111.here hx rfl (pc0 := 26) (pc' := 8) rfl (hb hby d4_26) (by decide) (by decide) k)
  show Gl _ _ _ _ (T111.setTop (mkF m 8 _ []))
  refine Gl.go ?_ (fun t k => XS.iloadN X111.here hx rfl (hb hby d4_8) rfl k)
  show Gl _ _ _ _ (T111.setTop (mkF m 9 _ [(.int (2 : Int32))]))
  refine Gl.go ?_ (fun t k => XS.aloadN X111.here hx rfl (hb hby d4_9) rfl rfl k)
  show Gl _ _ _ _ (T111.setTop (mkF m 10 #[.val (.ref ns), .val (.ref b107), .val (.int (2 : Int32))] [(.ref ns), (.int (2 : Int32))]))
  refine Gl.go ?_ (RA.len (hNS.ext OLD) X111 hx hZ e111 (g := (mkF m 10 #[.val (.ref ns), .val (.ref b107), .val (.int (2 : Int32))] [(.ref ns), (.int (2 : Int32))])) rfl rfl (hb hby d4_10))
  show Gl _ _ _ _ (T111.setTop (mkF m 11 _ [(.int (5 : Int32)), (.int (2 : Int32))]))
  refine Gl.go ?_ (fun t k => XS.icmpNo X111.here hx rfl (hb hby d4_11) rfl (tlt (by decide : (2 : Int32) < (5 : Int32))).2.1 k)
  show Gl _ _ _ _ (T111.setTop (mkF m 14 _ []))
  refine Gl.go ?_ (fun t k => XS.aloadN X111.here hx rfl (hb hby d4_14) rfl rfl k)
  show Gl _ _ _ _ (T111.setTop (mkF m 15 _ [(.ref b107)]))
  refine Gl.go ?_ (fun t k => XS.iloadN X111.here hx rfl (hb hby d4_15) rfl k)
  show Gl _ _ _ _ (T111.setTop (mkF m 16 _ [(.int (2 : Int32)), (.ref b107)]))
  refine Gl.go ?_ (fun t k => XS.aloadN X111.here hx rfl (hb hby d4_16) rfl rfl k)
  show Gl _ _ _ _ (T111.setTop (mkF m 17 _ [(.ref ns), (.int (2 : Int32)), (.ref b107)]))
  refine Gl.go ?_ (fun t k => XS.iloadN X111.here hx rfl (hb hby d4_17) rfl k)
  show Gl _ _ _ _ (T111.setTop (mkF m 18 #[.val (.ref ns), .val (.ref b107), .val (.int (2 : Int32))] [(.int (2 : Int32)), (.ref ns), (.int (2 : Int32)), (.ref b107)]))
  refine Gl.go ?_ (RA.rd (hNS.ext OLD) rfl X111 hx hZ e111 (by decide) (by decide) (g := (mkF m 18 #[.val (.ref ns), .val (.ref b107), .val (.int (2 : Int32))] [(.int (2 : Int32)), (.ref ns), (.int (2 : Int32)), (.ref b107)])) rfl rfl (hb hby d4_18))
  show Gl _ _ _ _ (T111.setTop (mkF m 19 #[.val (.ref ns), .val (.ref b107), .val (.int (2 : Int32))] [(.ref (A 2)), (.int (2 : Int32)), (.ref b107)]))
  obtain ⟨_, _, ⟨T112, L112, k112, n112⟩, -, X112, ⟨Lc112, hQ112, l112, y112, z112⟩, st112⟩ := Jvm.LawKit.callS X111 hx (y := (⟨"java/util/Objects", "requireNonNull", "(Ljava/lang/Object;)Ljava/lang/Object;"⟩ : MethodName)) hown (mvT hZ (hw _ (List.mem_of_getElem? (i := 33) rfl))) (mvT hZ (hw _ (List.mem_of_getElem? (i := 34) rfl))) (mvT hZ (hw _ (List.mem_of_getElem? (i := 35) rfl))) (mvT hZ (hw _ (List.mem_of_getElem? (i := 36) rfl))) (by decide) (backOf (W := 2) (rm5 l Z a0 hw [] (A 2) h111) hZ (hw _ (List.mem_of_getElem? (i := 36) rfl)) (hw _ (List.mem_of_getElem? (i := 35) rfl)) (by decide) (by decide)) (g := (mkF m 19 #[.val (.ref ns), .val (.ref b107), .val (.int (2 : Int32))] [(.ref (A 2)), (.int (2 : Int32)), (.ref b107)])) rfl (by rw [hml]; rfl) (argsL := [(.ref (A 2))]) (rest := [(.int (2 : Int32)), (.ref b107)]) (lenOf pd_2 rfl) rfl (by show 2 * 0 + _ ≤ _; exact Nat.le_of_eq rfl) (hb hby d4_19) (fun _ _ => ⟨rfl, e111, (by decide : 1 + 0 ≤ _), (by decide : 5 + 0 ≤ _)⟩)
  dsimp only [Pt.U, Pt.locs, Pt.cells, Pt.slots] at X112 l112 y112 z112 st112 hQ112
  rw [l112, y112, z112] at X112
  clear l112 y112 z112
  obtain ⟨rfl, rfl, e112⟩ := hQ112
  replace NF := Fr.app NF (Fr.nil n0)
  refine Gl.go ?_ st112
  show Gl _ _ _ _ (T112.setTop (mkF m 22 #[.val (.ref ns), .val (.ref b107), .val (.int (2 : Int32))] [(.ref (A 2)), (.int (2 : Int32)), (.ref b107)]))
  obtain ⟨cl113, Ar113, q113, S113, N113, Hh113, G113⟩ := V_b107
  obtain ⟨T113, h113, X113, e113, W113, st113⟩ := stR X112 hx hZ e112 Ar113 (j := (2 : Int32)) (inb_of S113 ⟨by decide, by decide⟩) rfl (Sto.ofV Ar113 q113 O107 (Ins.of_exa ((hE 2 (by decide)).ext OLD) (hw _ (List.mem_of_getElem? (i := 37) rfl)))) (g := (mkF m 22 #[.val (.ref ns), .val (.ref b107), .val (.int (2 : Int32))] [(.ref (A 2)), (.int (2 : Int32)), (.ref b107)])) rfl rfl (hb hby d4_22)
  replace OLD := own_owr OLD W113 sz_b107
  replace Z0 := Nat.le_trans Z0 (Keep.of_wr W113).1
  have V_b107 : Arv Z h113 b107 k107 (.object "java/lang/Object") (5 : Int32) [(.ref (A 0)), (.ref (A 1)), (.ref (A 2)), .null, .null] .null := Arv.set Ar113 q113 S113 N113 Hh113 G113 rfl W113 2 rfl (Nat.le_of_ble_eq_true rfl)
  clear Hh113 G113 N113 S113 q113 W113
  clear Ar113
  clear cl113
  replace NF := Fr.snoc X113 NF g_b107
  refine Gl.go ?_ st113
  show Gl _ _ _ _ (T113.setTop (mkF m 23 #[.val (.ref ns), .val (.ref b107), .val (.int (2 : Int32))] []))
  refine Gl.go ?_ (fun t k => XS.iinc X113.here hx rfl (hb hby d4_23) rfl (l' := #[.val (.ref ns), .val (.ref b107), .val (.int (3 : Int32))]) rfl k)
  show Gl _ _ _ _ (T113.setTop (mkF m 26 _ []))
  refine Gl.go ?_ (fun t k => XS.goto X113.here hx rfl (pc0 := 26) (pc' := 8) rfl (hb hby d4_26) (by decide) (by decide) k)
  show Gl _ _ _ _ (T113.setTop (mkF m 8 _ []))
  refine Gl.go ?_ (fun t k => XS.iloadN X113.here hx rfl (hb hby d4_8) rfl k)
  show Gl _ _ _ _ (T113.setTop (mkF m 9 _ [(.int (3 : Int32))]))
  refine Gl.go ?_ (fun t k => XS.aloadN X113.here hx rfl (hb hby d4_9) rfl rfl k)
  show Gl _ _ _ _ (T113.setTop (mkF m 10 #[.val (.ref ns), .val (.ref b107), .val (.int (3 : Int32))] [(.ref ns), (.int (3 : Int32))]))
  refine Gl.go ?_ (RA.len (hNS.ext OLD) X113 hx hZ e113 (g := (mkF m 10 #[.val (.ref ns), .val (.ref b107), .val (.int (3 : Int32))] [(.ref ns), (.int (3 : Int32))])) rfl rfl (hb hby d4_10))
  show Gl _ _ _ _ (T113.setTop (mkF m 11 _ [(.int (5 : Int32)), (.int (3 : Int32))]))
  refine Gl.go ?_ (fun t k => XS.icmpNo X113.here hx rfl (hb hby d4_11) rfl (tlt (by decide : (3 : Int32) < (5 : Int32))).2.1 k)
  show Gl _ _ _ _ (T113.setTop (mkF m 14 _ []))
  refine Gl.go ?_ (fun t k => XS.aloadN X113.here hx rfl (hb hby d4_14) rfl rfl k)
  show Gl _ _ _ _ (T113.setTop (mkF m 15 _ [(.ref b107)]))
  refine Gl.go ?_ (fun t k => XS.iloadN X113.here hx rfl (hb hby d4_15) rfl k)
  show Gl _ _ _ _ (T113.setTop (mkF m 16 _ [(.int (3 : Int32)), (.ref b107)]))
  refine Gl.go ?_ (fun t k => XS.aloadN X113.here hx rfl (hb hby d4_16) rfl rfl k)
  show Gl _ _ _ _ (T113.setTop (mkF m 17 _ [(.ref ns), (.int (3 : Int32)), (.ref b107)]))
  refine Gl.go ?_ (fun t k => XS.iloadN X113.here hx rfl (hb hby d4_17) rfl k)
  show Gl _ _ _ _ (T113.setTop (mkF m 18 #[.val (.ref ns), .val (.ref b107), .val (.int (3 : Int32))] [(.int (3 : Int32)), (.ref ns), (.int (3 : Int32)), (.ref b107)]))
  refine Gl.go ?_ (RA.rd (hNS.ext OLD) rfl X113 hx hZ e113 (by decide) (by decide) (g := (mkF m 18 #[.val (.ref ns), .val (.ref b107), .val (.int (3 : Int32))] [(.int (3 : Int32)), (.ref ns), (.int (3 : Int32)), (.ref b107)])) rfl rfl (hb hby d4_18))
  show Gl _ _ _ _ (T113.setTop (mkF m 19 #[.val (.ref ns), .val (.ref b107), .val (.int (3 : Int32))] [(.ref (A 3)), (.int (3 : Int32)), (.ref b107)]))
  obtain ⟨_, _, ⟨T114, L114, k114, n114⟩, -, X114, ⟨Lc114, hQ114, l114, y114, z114⟩, st114⟩ := Jvm.LawKit.callS X113 hx (y := (⟨"java/util/Objects", "requireNonNull", "(Ljava/lang/Object;)Ljava/lang/Object;"⟩ : MethodName)) hown (mvT hZ (hw _ (List.mem_of_getElem? (i := 33) rfl))) (mvT hZ (hw _ (List.mem_of_getElem? (i := 34) rfl))) (mvT hZ (hw _ (List.mem_of_getElem? (i := 35) rfl))) (mvT hZ (hw _ (List.mem_of_getElem? (i := 36) rfl))) (by decide) (backOf (W := 2) (rm5 l Z a0 hw [] (A 3) h113) hZ (hw _ (List.mem_of_getElem? (i := 36) rfl)) (hw _ (List.mem_of_getElem? (i := 35) rfl)) (by decide) (by decide)) (g := (mkF m 19 #[.val (.ref ns), .val (.ref b107), .val (.int (3 : Int32))] [(.ref (A 3)), (.int (3 : Int32)), (.ref b107)])) rfl (by rw [hml]; rfl) (argsL := [(.ref (A 3))]) (rest := [(.int (3 : Int32)), (.ref b107)]) (lenOf pd_2 rfl) rfl (by show 2 * 0 + _ ≤ _; exact Nat.le_of_eq rfl) (hb hby d4_19) (fun _ _ => ⟨rfl, e113, (by decide : 1 + 0 ≤ _), (by decide : 5 + 0 ≤ _)⟩)
  dsimp only [Pt.U, Pt.locs, Pt.cells, Pt.slots] at X114 l114 y114 z114 st114 hQ114
  rw [l114, y114, z114] at X114
  clear l114 y114 z114
  obtain ⟨rfl, rfl, e114⟩ := hQ114
  replace NF := Fr.app NF (Fr.nil n0)
  refine Gl.go ?_ st114
  show Gl _ _ _ _ (T114.setTop (mkF m 22 #[.val (.ref ns), .val (.ref b107), .val (.int (3 : Int32))] [(.ref (A 3)), (.int (3 : Int32)), (.ref b107)]))
  obtain ⟨cl115, Ar115, q115, S115, N115, Hh115, G115⟩ := V_b107
  obtain ⟨T115, h115, X115, e115, W115, st115⟩ := stR X114 hx hZ e114 Ar115 (j := (3 : Int32)) (inb_of S115 ⟨by decide, by decide⟩) rfl (Sto.ofV Ar115 q115 O107 (Ins.of_exa ((hE 3 (by decide)).ext OLD) (hw _ (List.mem_of_getElem? (i := 37) rfl)))) (g := (mkF m 22 #[.val (.ref ns), .val (.ref b107), .val (.int (3 : Int32))] [(.ref (A 3)), (.int (3 : Int32)), (.ref b107)])) rfl rfl (hb hby d4_22)
  replace OLD := own_owr OLD W115 sz_b107
  replace Z0 := Nat.le_trans Z0 (Keep.of_wr W115).1
  have V_b107 : Arv Z h115 b107 k107 (.object "java/lang/Object") (5 : Int32) [(.ref (A 0)), (.ref (A 1)), (.ref (A 2)), (.ref (A 3)), .null] .null := Arv.set Ar115 q115 S115 N115 Hh115 G115 rfl W115 3 rfl (Nat.le_of_ble_eq_true rfl)
  clear Hh115 G115 N115 S115 q115 W115
  clear Ar115
  clear cl115
  replace NF := Fr.snoc X115 NF g_b107
  refine Gl.go ?_ st115
  show Gl _ _ _ _ (T115.setTop (mkF m 23 #[.val (.ref ns), .val (.ref b107), .val (.int (3 : Int32))] []))
  refine Gl.go ?_ (fun t k => XS.iinc X115.here hx rfl (hb hby d4_23) rfl (l' := #[.val (.ref ns), .val (.ref b107), .val (.int (4 : Int32))]) rfl k)
  show Gl _ _ _ _ (T115.setTop (mkF m 26 _ []))
  refine Gl.go ?_ (fun t k => XS.goto X115.here hx rfl (pc0 := 26) (pc' := 8) rfl (hb hby d4_26) (by decide) (by decide) k)
  show Gl _ _ _ _ (T115.setTop (mkF m 8 _ []))
  refine Gl.go ?_ (fun t k => XS.iloadN X115.here hx rfl (hb hby d4_8) rfl k)
  show Gl _ _ _ _ (T115.setTop (mkF m 9 _ [(.int (4 : Int32))]))
  refine Gl.go ?_ (fun t k => XS.aloadN X115.here hx rfl (hb hby d4_9) rfl rfl k)
  show Gl _ _ _ _ (T115.setTop (mkF m 10 #[.val (.ref ns), .val (.ref b107), .val (.int (4 : Int32))] [(.ref ns), (.int (4 : Int32))]))
  refine Gl.go ?_ (RA.len (hNS.ext OLD) X115 hx hZ e115 (g := (mkF m 10 #[.val (.ref ns), .val (.ref b107), .val (.int (4 : Int32))] [(.ref ns), (.int (4 : Int32))])) rfl rfl (hb hby d4_10))
  show Gl _ _ _ _ (T115.setTop (mkF m 11 _ [(.int (5 : Int32)), (.int (4 : Int32))]))
  refine Gl.go ?_ (fun t k => XS.icmpNo X115.here hx rfl (hb hby d4_11) rfl (tlt (by decide : (4 : Int32) < (5 : Int32))).2.1 k)
  show Gl _ _ _ _ (T115.setTop (mkF m 14 _ []))
  refine Gl.go ?_ (fun t k => XS.aloadN X115.here hx rfl (hb hby d4_14) rfl rfl k)
  show Gl _ _ _ _ (T115.setTop (mkF m 15 _ [(.ref b107)]))
  refine Gl.go ?_ (fun t k => XS.iloadN X115.here hx rfl (hb hby d4_15) rfl k)
  show Gl _ _ _ _ (T115.setTop (mkF m 16 _ [(.int (4 : Int32)), (.ref b107)]))
  refine Gl.go ?_ (fun t k => XS.aloadN X115.here hx rfl (hb hby d4_16) rfl rfl k)
  show Gl _ _ _ _ (T115.setTop (mkF m 17 _ [(.ref ns), (.int (4 : Int32)), (.ref b107)]))
  refine Gl.go ?_ (fun t k => XS.iloadN X115.here hx rfl (hb hby d4_17) rfl k)
  show Gl _ _ _ _ (T115.setTop (mkF m 18 #[.val (.ref ns), .val (.ref b107), .val (.int (4 : Int32))] [(.int (4 : Int32)), (.ref ns), (.int (4 : Int32)), (.ref b107)]))
  refine Gl.go ?_ (RA.rd (hNS.ext OLD) rfl X115 hx hZ e115 (by decide) (by decide) (g := (mkF m 18 #[.val (.ref ns), .val (.ref b107), .val (.int (4 : Int32))] [(.int (4 : Int32)), (.ref ns), (.int (4 : Int32)), (.ref b107)])) rfl rfl (hb hby d4_18))
  show Gl _ _ _ _ (T115.setTop (mkF m 19 #[.val (.ref ns), .val (.ref b107), .val (.int (4 : Int32))] [(.ref (A 4)), (.int (4 : Int32)), (.ref b107)]))
  obtain ⟨_, _, ⟨T116, L116, k116, n116⟩, -, X116, ⟨Lc116, hQ116, l116, y116, z116⟩, st116⟩ := Jvm.LawKit.callS X115 hx (y := (⟨"java/util/Objects", "requireNonNull", "(Ljava/lang/Object;)Ljava/lang/Object;"⟩ : MethodName)) hown (mvT hZ (hw _ (List.mem_of_getElem? (i := 33) rfl))) (mvT hZ (hw _ (List.mem_of_getElem? (i := 34) rfl))) (mvT hZ (hw _ (List.mem_of_getElem? (i := 35) rfl))) (mvT hZ (hw _ (List.mem_of_getElem? (i := 36) rfl))) (by decide) (backOf (W := 2) (rm5 l Z a0 hw [] (A 4) h115) hZ (hw _ (List.mem_of_getElem? (i := 36) rfl)) (hw _ (List.mem_of_getElem? (i := 35) rfl)) (by decide) (by decide)) (g := (mkF m 19 #[.val (.ref ns), .val (.ref b107), .val (.int (4 : Int32))] [(.ref (A 4)), (.int (4 : Int32)), (.ref b107)])) rfl (by rw [hml]; rfl) (argsL := [(.ref (A 4))]) (rest := [(.int (4 : Int32)), (.ref b107)]) (lenOf pd_2 rfl) rfl (by show 2 * 0 + _ ≤ _; exact Nat.le_of_eq rfl) (hb hby d4_19) (fun _ _ => ⟨rfl, e115, (by decide : 1 + 0 ≤ _), (by decide : 5 + 0 ≤ _)⟩)
  dsimp only [Pt.U, Pt.locs, Pt.cells, Pt.slots] at X116 l116 y116 z116 st116 hQ116
  rw [l116, y116, z116] at X116
  clear l116 y116 z116
  obtain ⟨rfl, rfl, e116⟩ := hQ116
  replace NF := Fr.app NF (Fr.nil n0)
  refine Gl.go ?_ st116
  show Gl _ _ _ _ (T116.setTop (mkF m 22 #[.val (.ref ns), .val (.ref b107), .val (.int (4 : Int32))] [(.ref (A 4)), (.int (4 : Int32)), (.ref b107)]))
  obtain ⟨cl117, Ar117, q117, S117, N117, Hh117, G117⟩ := V_b107
  obtain ⟨T117, h117, X117, e117, W117, st117⟩ := stR X116 hx hZ e116 Ar117 (j := (4 : Int32)) (inb_of S117 ⟨by decide, by decide⟩) rfl (Sto.ofV Ar117 q117 O107 (Ins.of_exa ((hE 4 (by decide)).ext OLD) (hw _ (List.mem_of_getElem? (i := 37) rfl)))) (g := (mkF m 22 #[.val (.ref ns), .val (.ref b107), .val (.int (4 : Int32))] [(.ref (A 4)), (.int (4 : Int32)), (.ref b107)])) rfl rfl (hb hby d4_22)
  replace OLD := own_owr OLD W117 sz_b107
  replace Z0 := Nat.le_trans Z0 (Keep.of_wr W117).1
  have V_b107 : Arv Z h117 b107 k107 (.object "java/lang/Object") (5 : Int32) [(.ref (A 0)), (.ref (A 1)), (.ref (A 2)), (.ref (A 3)), (.ref (A 4))] .null := Arv.set Ar117 q117 S117 N117 Hh117 G117 rfl W117 4 rfl (Nat.le_of_ble_eq_true rfl)
  clear Hh117 G117 N117 S117 q117 W117
  clear Ar117
  clear cl117
  replace NF := Fr.snoc X117 NF g_b107
  refine Gl.go ?_ st117
  show Gl _ _ _ _ (T117.setTop (mkF m 23 #[.val (.ref ns), .val (.ref b107), .val (.int (4 : Int32))] []))
  refine Gl.go ?_ (fun t k => XS.iinc X117.here hx rfl (hb hby d4_23) rfl (l' := #[.val (.ref ns), .val (.ref b107), .val (.int (5 : Int32))]) rfl k)
  show Gl _ _ _ _ (T117.setTop (mkF m 26 _ []))
  refine Gl.go ?_ (fun t k => XS.goto X117.here hx rfl (pc0 := 26) (pc' := 8) rfl (hb hby d4_26) (by decide) (by decide) k)
  show Gl _ _ _ _ (T117.setTop (mkF m 8 _ []))
  refine Gl.go ?_ (fun t k => XS.iloadN X117.here hx rfl (hb hby d4_8) rfl k)
  show Gl _ _ _ _ (T117.setTop (mkF m 9 _ [(.int (5 : Int32))]))
  refine Gl.go ?_ (fun t k => XS.aloadN X117.here hx rfl (hb hby d4_9) rfl rfl k)
  show Gl _ _ _ _ (T117.setTop (mkF m 10 #[.val (.ref ns), .val (.ref b107), .val (.int (5 : Int32))] [(.ref ns), (.int (5 : Int32))]))
  refine Gl.go ?_ (RA.len (hNS.ext OLD) X117 hx hZ e117 (g := (mkF m 10 #[.val (.ref ns), .val (.ref b107), .val (.int (5 : Int32))] [(.ref ns), (.int (5 : Int32))])) rfl rfl (hb hby d4_10))
  show Gl _ _ _ _ (T117.setTop (mkF m 11 _ [(.int (5 : Int32)), (.int (5 : Int32))]))
  refine Gl.go ?_ (fun t k => XS.icmpYes X117.here hx rfl (pc0 := 11) (pc' := 29) rfl (hb hby d4_11) rfl (flt (by decide : ¬ ((5 : Int32) < (5 : Int32)))).2.1 (by decide) (by decide) k)
  show Gl _ _ _ _ (T117.setTop (mkF m 29 #[.val (.ref ns), .val (.ref b107), .val (.int (5 : Int32))] []))
  obtain ⟨T118, h118, X118, e118, E118, A118, D118, -, st118⟩ := newO X117 hx hZ hown (hw _ (List.mem_of_getElem? (i := 38) rfl)) (hw _ (List.mem_of_getElem? (i := 39) rfl)) (hw _ (List.mem_of_getElem? (i := 40) rfl)) e117 (g := (mkF m 29 #[.val (.ref ns), .val (.ref b107), .val (.int (5 : Int32))] [])) rfl (hb hby d4_29) (by decide) (by decide)
  obtain ⟨b118, g118⟩ : ∃ z, z = h117.size := ⟨_, rfl⟩
  rw [← g118] at A118 D118 st118
  have g_b118 : n0 ≤ b118 := Nat.le_trans Z0 (Nat.le_of_eq g118.symm)
  have ne_b107_b118 : b107 ≠ b118 := Nat.ne_of_lt (Nat.lt_of_lt_of_le V_b107.lt (Nat.le_of_eq g118.symm))
  have sz_b118 : (h0).size ≤ b118 := Nat.le_trans OLD.1 (Nat.le_of_eq g118.symm)
  replace OLD := own_oext OLD E118
  replace V_b107 := V_b107.ext E118
  replace Z0 := Nat.le_trans Z0 E118.1
  have E_b118 := A118
  have F_elements_b118 : Fld Z h118 b118 "java/util/ImmutableCollections$ListN" "elements" "[Ljava/lang/Object;" .null := D118 (Or.inr (hw _ (List.mem_of_getElem? (i := 67) rfl))) (ty := (.array (.object "java/lang/Object"))) (by decide)
  have F_allowNulls_b118 : Fld Z h118 b118 "java/util/ImmutableCollections$ListN" "allowNulls" "Z" (.int (0 : Int32)) := D118 (Or.inr (hw _ (List.mem_of_getElem? (i := 69) rfl))) (ty := .boolean) (by decide)
  refine Gl.go ?_ st118
  show Gl _ _ _ _ (T118.setTop (mkF m 32 _ [(.ref b118)]))
  refine Gl.go ?_ (fun t k => XS.dup X118.here hx rfl (hb hby d4_32) rfl rfl k)
  show Gl _ _ _ _ (T118.setTop (mkF m 33 _ [(.ref b118), (.ref b118)]))
  refine Gl.go ?_ (fun t k => XS.aloadN X118.here hx rfl (hb hby d4_33) rfl rfl k)
  show Gl _ _ _ _ (T118.setTop (mkF m 34 _ [(.ref b107), (.ref b118), (.ref b118)]))
  refine Gl.go ?_ (fun t k => XS.iconst X118.here hx rfl (hb hby d4_34) k)
  show Gl _ _ _ _ (T118.setTop (mkF m 35 #[.val (.ref ns), .val (.ref b107), .val (.int (5 : Int32))] [(.int (0 : Int32)), (.ref b107), (.ref b118), (.ref b118)]))
  obtain ⟨_, _, ⟨T119, L119, k119, n119⟩, -, X119, ⟨Lc119, hQ119, l119, y119, z119⟩, st119⟩ := X118.specialBackNest hx (y := (⟨"java/util/ImmutableCollections$ListN", "<init>", "([Ljava/lang/Object;Z)V"⟩ : MethodName)) rfl hown (own_mvM hZ (hw _ (List.mem_of_getElem? (i := 41) rfl))) (mvT hZ (hw _ (List.mem_of_getElem? (i := 42) rfl))) (mvT hZ (hw _ (List.mem_of_getElem? (i := 44) rfl))) (by decide) (backOf (W := 1) (rm6 l Z a0 hw [] b118 b107  _ _ h118 n0 Z0 E_b118 g_b118 F_elements_b118 F_allowNulls_b118 ) hZ (hw _ (List.mem_of_getElem? (i := 44) rfl)) (hw _ (List.mem_of_getElem? (i := 40) rfl)) (by decide) (by decide)) (g := (mkF m 35 #[.val (.ref ns), .val (.ref b107), .val (.int (5 : Int32))] [(.int (0 : Int32)), (.ref b107), (.ref b118), (.ref b118)])) rfl (by rw [hml]; rfl) (Steps.refl _) (a := b118) (argsL := [(.ref b107), (.int (0 : Int32))]) (rest := [(.ref b118)]) (lenOf pd_6 rfl) rfl (by show 2 * 0 + _ ≤ _; exact Nat.le_of_eq rfl) (hb hby d4_35) (fun _ _ => ⟨rfl, e118, (by decide : 2 + 0 ≤ _), (by decide : 7 + 0 ≤ _)⟩)
  dsimp only [Pt.U, Pt.locs, Pt.cells, Pt.slots] at X119 l119 y119 z119 st119 hQ119
  rw [l119, y119, z119] at X119
  clear l119 y119 z119
  obtain ⟨N119q, rfl, K119, ec119, f119_elements, f119_allowNulls⟩ := hQ119
  replace NF := Fr.app NF N119q
  replace OLD := own_okeep OLD K119 (fun y hy => by cases List.mem_singleton.mp hy; exact sz_b118)
  replace V_b107 := V_b107.keep K119 (ninS ne_b107_b118 nin0)
  replace Z0 := Nat.le_trans Z0 K119.1
  replace E_b118 := ec119
  replace F_elements_b118 := f119_elements
  replace F_allowNulls_b118 := f119_allowNulls
  refine Gl.tr ?_ st119
  show Gl _ _ _ _ (T119.setTop (mkF m 38 _ [(.ref b118)]))
  obtain ⟨fs, hr, hrun, hended, hW, hsame⟩ := X119.leave (v := some (.ref b118)) (fun h => by rw [Bd.returns] at h; cases h) (BodyLoose.notSynchronized Bd)
  exact Gl.mk ⟨_, _, retOut X119 hx Bd.returns rfl (Or.inr (Or.inr (Or.inr (Or.inr ⟨rfl, rfl, rfl⟩)))) (hb hby d4_38) hr, hrun, hended, _, _, rfl, own_cast (P := fun H v L => QLO Z 5 A h0 n0 v H L) rfl ⟨NF, ⟨b118, rfl, OLD, Or.inr ⟨by decide, by decide, ⟨sz_b118, E_b118.lt⟩, E_b118, F_allowNulls_b118, b107, ⟨sz_b107, V_b107.lt⟩, F_elements_b118, RA.of V_b107 5 rfl (own_lt5 rfl rfl rfl rfl rfl)⟩⟩⟩, ⟨_, rfl⟩, hW, hsame.mono (by decide) (by decide)⟩
theorem d3_0 : decode jdk_40_method_47_code 0 = .ok (.aload_n 0, 1) := by decide +kernel
theorem d3_1 : decode jdk_40_method_47_code 1 = .ok (.arraylength, 1) := by decide +kernel
theorem d3_2 : decode jdk_40_method_47_code 2 = .ok (.tableswitch 57 0 2 #[26, 32, 43], 26) := by decide +kernel
theorem d3_28 : decode jdk_40_method_47_code 28 = .ok (.getstatic 90, 3) := by decide +kernel
theorem d3_31 : decode jdk_40_method_47_code 31 = .ok (.astore_n 1, 1) := by decide +kernel
theorem d3_32 : decode jdk_40_method_47_code 32 = .ok (.aload_n 1, 1) := by decide +kernel
theorem d3_33 : decode jdk_40_method_47_code 33 = .ok (.areturn, 1) := by decide +kernel
theorem d3_34 : decode jdk_40_method_47_code 34 = .ok (.new 96, 3) := by decide +kernel
theorem d3_37 : decode jdk_40_method_47_code 37 = .ok (.dup, 1) := by decide +kernel
theorem d3_38 : decode jdk_40_method_47_code 38 = .ok (.aload_n 0, 1) := by decide +kernel
theorem d3_39 : decode jdk_40_method_47_code 39 = .ok (.iconst 0, 1) := by decide +kernel
theorem d3_40 : decode jdk_40_method_47_code 40 = .ok (.aaload, 1) := by decide +kernel
theorem d3_41 : decode jdk_40_method_47_code 41 = .ok (.invokespecial 98, 3) := by decide +kernel
theorem d3_44 : decode jdk_40_method_47_code 44 = .ok (.areturn, 1) := by decide +kernel
theorem d3_45 : decode jdk_40_method_47_code 45 = .ok (.new 96, 3) := by decide +kernel
theorem d3_48 : decode jdk_40_method_47_code 48 = .ok (.dup, 1) := by decide +kernel
theorem d3_49 : decode jdk_40_method_47_code 49 = .ok (.aload_n 0, 1) := by decide +kernel
theorem d3_50 : decode jdk_40_method_47_code 50 = .ok (.iconst 0, 1) := by decide +kernel
theorem d3_51 : decode jdk_40_method_47_code 51 = .ok (.aaload, 1) := by decide +kernel
theorem d3_52 : decode jdk_40_method_47_code 52 = .ok (.aload_n 0, 1) := by decide +kernel
theorem d3_53 : decode jdk_40_method_47_code 53 = .ok (.iconst 1, 1) := by decide +kernel
theorem d3_54 : decode jdk_40_method_47_code 54 = .ok (.aaload, 1) := by decide +kernel
theorem d3_55 : decode jdk_40_method_47_code 55 = .ok (.invokespecial 100, 3) := by decide +kernel
theorem d3_58 : decode jdk_40_method_47_code 58 = .ok (.areturn, 1) := by decide +kernel
theorem d3_59 : decode jdk_40_method_47_code 59 = .ok (.aload_n 0, 1) := by decide +kernel
theorem d3_60 : decode jdk_40_method_47_code 60 = .ok (.invokestatic 109, 3) := by decide +kernel
theorem d3_63 : decode jdk_40_method_47_code 63 = .ok (.areturn, 1) := by decide +kernel
theorem pn_3 : plainName "java/util/List" = true := by first | (simp [plainName, overriddenIn]; done) | decide +kernel
theorem ef_rm_lof_0 (m : MethodId) (x0 : Addr) : entryFrame m #[(.ref x0)] 2 = mkF m 0 #[.val (.ref x0), .unset] [] := by first | (simp [entryFrame, mkF, argsToLocals, Value.category]; done) | rfl
set_option maxRecDepth 65536 in
set_option maxHeartbeats 40000000 in
theorem rm_lof_0 (l : Launch) (Z : State) (a0 : Array Value) (hw : ∀ d ∈ tables_1, d.before a0 Z = true) (ws : List Jvm.Cond) (ns : Addr) (A : Nat → Addr) (em el : Addr) (h0 : Heap) (n0 : Nat) (Z0 : n0 ≤ h0.size) (hNS : RA Z h0 ns (.object "java/lang/String") (0 : Int32) A) (hE : ∀ i, i < 0 → Exa Z h0 (A i) "java/lang/String") (S_EM : Sta Z h0 "java/util/ImmutableCollections" "EMPTY" "Ljava/lang/Object;" (.ref em)) (S_EL : Sta Z h0 "java/util/ImmutableCollections" "EMPTY_LIST" "Ljava/util/ImmutableCollections$ListN;" (.ref el)) :
    MetFree l (⟨"java/util/List", "of", "([Ljava/lang/Object;)Ljava/util/List;"⟩ : MethodName) (head1 (Jvm.Cond.code (⟨"java/util/List", "of", "([Ljava/lang/Object;)Ljava/util/List;"⟩ : MethodName) jdk_40_method_47_code 2 (some (.object "java/util/List")) :: ws) ({ frames := 0, cells := 0, slots := 0, locals := 0 } : Room)) (fun aQ U => aQ = #[(.ref ns)] ∧ Z.Warmed39 U.vm ∧ U.heap = h0) (fun _ _ _ _ _ => True) (fun _ U o U' => ∃ vQ LQ, o = .returned vQ ∧ QLO Z 0 A h0 n0 vQ U'.heap LQ ∧ FrameEnd U o U' LQ ({ frames := 0, cells := 0, slots := 0, locals := 0 } : Room).cells ({ frames := 0, cells := 0, slots := 0, locals := 0 } : Room).slots) := by
  refine MetFree.of_bodySF (plainFor_of_name pn_3) hisR ?_
  intro p e s m args below meth c s₁ Bd hml0 hP hK
  obtain ⟨rfl, hZ, hh⟩ := hP
  have hx := Bd.exec
  have hby := Bd.bytes
  have hml : c.maxLocals = 2 := hml0
  have hown : s.vm.findClass "java/util/List" = some m.cls := findClass_of_methodNamed Bd.named
  have hnm := (name_of_methodNamed Bd.named Bd.method).1
  have X0 : Stand p l e ({ frames := 0, cells := 0, slots := 0, locals := 0 } : Room) s m #[(.ref ns)] below meth c s₁ [] 0 0 := Stand.of_body Bd
  have e0 : s₁.heap = h0 := by rw [← hh, Bd.state]; rfl
  have NF := Fr.nil n0
  have OLD : Ext h0 h0 := own_erefl h0
  refine Gl.out ?_
  refine Gl.go ?_ (fun t k => castTop (ef_rm_lof_0 m ns) k)
  show Gl _ _ _ _ (s₁.setTop (mkF m 0 _ []))
  refine Gl.go ?_ (fun t k => XS.aloadN X0.here hx rfl (hb hby d3_0) rfl rfl k)
  show Gl _ _ _ _ (s₁.setTop (mkF m 1 #[.val (.ref ns), .unset] [(.ref ns)]))
  refine Gl.go ?_ (RA.len (hNS.ext OLD) X0 hx hZ e0 (g := (mkF m 1 #[.val (.ref ns), .unset] [(.ref ns)])) rfl rfl (hb hby d3_1))
  show Gl _ _ _ _ (s₁.setTop (mkF m 2 #[.val (.ref ns), .unset] [(.int (0 : Int32))]))
  refine Gl.go ?_ (fun t k => XS.tswIn X0.here hx rfl (pc0 := 2) (pc' := 28) rfl (hb hby d3_2) rfl (by decide) rfl (by decide) (by decide) k)
  show Gl _ _ _ _ (s₁.setTop (mkF m 28 #[.val (.ref ns), .unset] []))
  obtain ⟨T120, X120, e120, st120⟩ := getS2 X0 hx hZ hown (host := "") (Or.inl (hw _ (List.mem_of_getElem? (i := 154) rfl))) Via.refl e0 S_EL (g := (mkF m 28 #[.val (.ref ns), .unset] [])) rfl (hb hby d3_28)
  refine Gl.go ?_ st120
  show Gl _ _ _ _ (T120.setTop (mkF m 31 #[.val (.ref ns), .unset] [(.ref el)]))
  refine Gl.go ?_ (fun t k => XS.astoreN X120.here hx rfl (hb hby d3_31) rfl rfl (l' := #[.val (.ref ns), .val (.ref el)]) rfl k)
  show Gl _ _ _ _ (T120.setTop (mkF m 32 _ []))
  refine Gl.go ?_ (fun t k => XS.aloadN X120.here hx rfl (hb hby d3_32) rfl rfl k)
  show Gl _ _ _ _ (T120.setTop (mkF m 33 _ [(.ref el)]))
  obtain ⟨fs, hr, hrun, hended, hW, hsame⟩ := X120.leave (v := some (.ref el)) (fun h => by rw [Bd.returns] at h; cases h) (BodyLoose.notSynchronized Bd)
  exact Gl.mk ⟨_, _, retOut X120 hx Bd.returns rfl (Or.inr (Or.inr (Or.inr (Or.inr ⟨rfl, rfl, rfl⟩)))) (hb hby d3_33) hr, hrun, hended, _, _, rfl, own_cast (P := fun H v L => QLO Z 0 A h0 n0 v H L) e120 ⟨NF, ⟨el, rfl, OLD, Or.inl ⟨by decide, (fun q => absurd q (by decide)), (fun q => absurd q (by decide))⟩⟩⟩, ⟨_, rfl⟩, hW, hsame.mono (by decide) (by decide)⟩
theorem pd_7 : parseMethodDescriptor "(Ljava/lang/Object;)V" = some ⟨[(.object "java/lang/Object")], none⟩ := by decide +kernel
theorem ef_rm_lof_1 (m : MethodId) (x0 : Addr) : entryFrame m #[(.ref x0)] 2 = mkF m 0 #[.val (.ref x0), .unset] [] := by first | (simp [entryFrame, mkF, argsToLocals, Value.category]; done) | rfl
set_option maxRecDepth 65536 in
set_option maxHeartbeats 40000000 in
theorem rm_lof_1 (l : Launch) (Z : State) (a0 : Array Value) (hw : ∀ d ∈ tables_1, d.before a0 Z = true) (ws : List Jvm.Cond) (ns : Addr) (A : Nat → Addr) (em el : Addr) (h0 : Heap) (n0 : Nat) (Z0 : n0 ≤ h0.size) (hNS : RA Z h0 ns (.object "java/lang/String") (1 : Int32) A) (hE : ∀ i, i < 1 → Exa Z h0 (A i) "java/lang/String") (S_EM : Sta Z h0 "java/util/ImmutableCollections" "EMPTY" "Ljava/lang/Object;" (.ref em)) (S_EL : Sta Z h0 "java/util/ImmutableCollections" "EMPTY_LIST" "Ljava/util/ImmutableCollections$ListN;" (.ref el)) :
    MetFree l (⟨"java/util/List", "of", "([Ljava/lang/Object;)Ljava/util/List;"⟩ : MethodName) (head1 (Jvm.Cond.code (⟨"java/util/List", "of", "([Ljava/lang/Object;)Ljava/util/List;"⟩ : MethodName) jdk_40_method_47_code 2 (some (.object "java/util/List")) :: ws) ({ frames := 5, cells := 1, slots := 2, locals := 62 } : Room)) (fun aQ U => aQ = #[(.ref ns)] ∧ Z.Warmed39 U.vm ∧ U.heap = h0) (fun _ _ _ _ _ => True) (fun _ U o U' => ∃ vQ LQ, o = .returned vQ ∧ QLO Z 1 A h0 n0 vQ U'.heap LQ ∧ FrameEnd U o U' LQ ({ frames := 5, cells := 1, slots := 2, locals := 62 } : Room).cells ({ frames := 5, cells := 1, slots := 2, locals := 62 } : Room).slots) := by
  refine MetFree.of_bodySF (plainFor_of_name pn_3) hisR ?_
  intro p e s m args below meth c s₁ Bd hml0 hP hK
  obtain ⟨rfl, hZ, hh⟩ := hP
  have hx := Bd.exec
  have hby := Bd.bytes
  have hml : c.maxLocals = 2 := hml0
  have hown : s.vm.findClass "java/util/List" = some m.cls := findClass_of_methodNamed Bd.named
  have hnm := (name_of_methodNamed Bd.named Bd.method).1
  have X0 : Stand p l e ({ frames := 5, cells := 1, slots := 2, locals := 62 } : Room) s m #[(.ref ns)] below meth c s₁ [] 0 0 := Stand.of_body Bd
  have e0 : s₁.heap = h0 := by rw [← hh, Bd.state]; rfl
  have NF := Fr.nil n0
  have OLD : Ext h0 h0 := own_erefl h0
  refine Gl.out ?_
  refine Gl.go ?_ (fun t k => castTop (ef_rm_lof_1 m ns) k)
  show Gl _ _ _ _ (s₁.setTop (mkF m 0 _ []))
  refine Gl.go ?_ (fun t k => XS.aloadN X0.here hx rfl (hb hby d3_0) rfl rfl k)
  show Gl _ _ _ _ (s₁.setTop (mkF m 1 #[.val (.ref ns), .unset] [(.ref ns)]))
  refine Gl.go ?_ (RA.len (hNS.ext OLD) X0 hx hZ e0 (g := (mkF m 1 #[.val (.ref ns), .unset] [(.ref ns)])) rfl rfl (hb hby d3_1))
  show Gl _ _ _ _ (s₁.setTop (mkF m 2 #[.val (.ref ns), .unset] [(.int (1 : Int32))]))
  refine Gl.go ?_ (fun t k => XS.tswIn X0.here hx rfl (pc0 := 2) (pc' := 34) rfl (hb hby d3_2) rfl (by decide) rfl (by decide) (by decide) k)
  show Gl _ _ _ _ (s₁.setTop (mkF m 34 #[.val (.ref ns), .unset] []))
  obtain ⟨T121, h121, X121, e121, E121, A121, D121, -, st121⟩ := newO X0 hx hZ hown (hw _ (List.mem_of_getElem? (i := 130) rfl)) (hw _ (List.mem_of_getElem? (i := 131) rfl)) (hw _ (List.mem_of_getElem? (i := 132) rfl)) e0 (g := (mkF m 34 #[.val (.ref ns), .unset] [])) rfl (hb hby d3_34) (by decide) (by decide)
  obtain ⟨b121, g121⟩ : ∃ z, z = h0.size := ⟨_, rfl⟩
  rw [← g121] at A121 D121 st121
  have g_b121 : n0 ≤ b121 := Nat.le_trans Z0 (Nat.le_of_eq g121.symm)
  have sz_b121 : (h0).size ≤ b121 := Nat.le_trans OLD.1 (Nat.le_of_eq g121.symm)
  replace OLD := own_oext OLD E121
  replace Z0 := Nat.le_trans Z0 E121.1
  have E_b121 := A121
  have F_e0_b121 : Fld Z h121 b121 "java/util/ImmutableCollections$List12" "e0" "Ljava/lang/Object;" .null := D121 (Or.inr (hw _ (List.mem_of_getElem? (i := 143) rfl))) (ty := (.object "java/lang/Object")) (by decide)
  have F_e1_b121 : Fld Z h121 b121 "java/util/ImmutableCollections$List12" "e1" "Ljava/lang/Object;" .null := D121 (Or.inr (hw _ (List.mem_of_getElem? (i := 145) rfl))) (ty := (.object "java/lang/Object")) (by decide)
  refine Gl.go ?_ st121
  show Gl _ _ _ _ (T121.setTop (mkF m 37 _ [(.ref b121)]))
  refine Gl.go ?_ (fun t k => XS.dup X121.here hx rfl (hb hby d3_37) rfl rfl k)
  show Gl _ _ _ _ (T121.setTop (mkF m 38 _ [(.ref b121), (.ref b121)]))
  refine Gl.go ?_ (fun t k => XS.aloadN X121.here hx rfl (hb hby d3_38) rfl rfl k)
  show Gl _ _ _ _ (T121.setTop (mkF m 39 _ [(.ref ns), (.ref b121), (.ref b121)]))
  refine Gl.go ?_ (fun t k => XS.iconst X121.here hx rfl (hb hby d3_39) k)
  show Gl _ _ _ _ (T121.setTop (mkF m 40 #[.val (.ref ns), .unset] [(.int (0 : Int32)), (.ref ns), (.ref b121), (.ref b121)]))
  refine Gl.go ?_ (RA.rd (hNS.ext OLD) rfl X121 hx hZ e121 (by decide) (by decide) (g := (mkF m 40 #[.val (.ref ns), .unset] [(.int (0 : Int32)), (.ref ns), (.ref b121), (.ref b121)])) rfl rfl (hb hby d3_40))
  show Gl _ _ _ _ (T121.setTop (mkF m 41 #[.val (.ref ns), .unset] [(.ref (A 0)), (.ref b121), (.ref b121)]))
  obtain ⟨_, _, ⟨T122, L122, k122, n122⟩, -, X122, ⟨Lc122, hQ122, l122, y122, z122⟩, st122⟩ := X121.specialBack hx (y := (⟨"java/util/ImmutableCollections$List12", "<init>", "(Ljava/lang/Object;)V"⟩ : MethodName)) rfl hown (mvT hZ (hw _ (List.mem_of_getElem? (i := 155) rfl))) (mvT hZ (hw _ (List.mem_of_getElem? (i := 156) rfl))) (mvT hZ (hw _ (List.mem_of_getElem? (i := 157) rfl))) (by decide) (backOf (W := 1) (rm21 l Z a0 hw [] b121 (A 0) em _ _ h121 n0 Z0 E_b121 g_b121 F_e0_b121 F_e1_b121 (S_EM.ext OLD)) hZ (hw _ (List.mem_of_getElem? (i := 157) rfl)) (hw _ (List.mem_of_getElem? (i := 132) rfl)) (by decide) (by decide)) (g := (mkF m 41 #[.val (.ref ns), .unset] [(.ref (A 0)), (.ref b121), (.ref b121)])) rfl (by rw [hml]; rfl) (Steps.refl _) (a := b121) (argsL := [(.ref (A 0))]) (rest := [(.ref b121)]) (lenOf pd_7 rfl) rfl (by show 2 * 0 + _ ≤ _; exact Nat.le_of_eq rfl) (hb hby d3_41) (fun _ _ => ⟨rfl, e121, (by decide : 1 + 0 ≤ _), (by decide : 2 + 0 ≤ _)⟩)
  dsimp only [Pt.U, Pt.locs, Pt.cells, Pt.slots] at X122 l122 y122 z122 st122 hQ122
  rw [l122, y122, z122] at X122
  clear l122 y122 z122
  obtain ⟨N122q, rfl, K122, ec122, f122_e0, f122_e1⟩ := hQ122
  replace NF := Fr.app NF N122q
  replace OLD := own_okeep OLD K122 (fun y hy => by cases List.mem_singleton.mp hy; exact sz_b121)
  replace Z0 := Nat.le_trans Z0 K122.1
  replace E_b121 := ec122
  replace F_e0_b121 := f122_e0
  replace F_e1_b121 := f122_e1
  refine Gl.tr ?_ st122
  show Gl _ _ _ _ (T122.setTop (mkF m 44 _ [(.ref b121)]))
  obtain ⟨fs, hr, hrun, hended, hW, hsame⟩ := X122.leave (v := some (.ref b121)) (fun h => by rw [Bd.returns] at h; cases h) (BodyLoose.notSynchronized Bd)
  exact Gl.mk ⟨_, _, retOut X122 hx Bd.returns rfl (Or.inr (Or.inr (Or.inr (Or.inr ⟨rfl, rfl, rfl⟩)))) (hb hby d3_44) hr, hrun, hended, _, _, rfl, own_cast (P := fun H v L => QLO Z 1 A h0 n0 v H L) rfl ⟨NF, ⟨b121, rfl, OLD, Or.inl ⟨by decide, (fun _ => ⟨⟨sz_b121, E_b121.lt⟩, E_b121, F_e0_b121⟩), (fun q => absurd q (by decide))⟩⟩⟩, ⟨_, rfl⟩, hW, hsame.mono (by decide) (by decide)⟩
theorem pd_8 : parseMethodDescriptor "(Ljava/lang/Object;Ljava/lang/Object;)V" = some ⟨[(.object "java/lang/Object"), (.object "java/lang/Object")], none⟩ := by decide +kernel
theorem ef_rm_lof_2 (m : MethodId) (x0 : Addr) : entryFrame m #[(.ref x0)] 2 = mkF m 0 #[.val (.ref x0), .unset] [] := by first | (simp [entryFrame, mkF, argsToLocals, Value.category]; done) | rfl
set_option maxRecDepth 65536 in
set_option maxHeartbeats 40000000 in
theorem rm_lof_2 (l : Launch) (Z : State) (a0 : Array Value) (hw : ∀ d ∈ tables_1, d.before a0 Z = true) (ws : List Jvm.Cond) (ns : Addr) (A : Nat → Addr) (em el : Addr) (h0 : Heap) (n0 : Nat) (Z0 : n0 ≤ h0.size) (hNS : RA Z h0 ns (.object "java/lang/String") (2 : Int32) A) (hE : ∀ i, i < 2 → Exa Z h0 (A i) "java/lang/String") (S_EM : Sta Z h0 "java/util/ImmutableCollections" "EMPTY" "Ljava/lang/Object;" (.ref em)) (S_EL : Sta Z h0 "java/util/ImmutableCollections" "EMPTY_LIST" "Ljava/util/ImmutableCollections$ListN;" (.ref el)) :
    MetFree l (⟨"java/util/List", "of", "([Ljava/lang/Object;)Ljava/util/List;"⟩ : MethodName) (head1 (Jvm.Cond.code (⟨"java/util/List", "of", "([Ljava/lang/Object;)Ljava/util/List;"⟩ : MethodName) jdk_40_method_47_code 2 (some (.object "java/util/List")) :: ws) ({ frames := 5, cells := 1, slots := 2, locals := 63 } : Room)) (fun aQ U => aQ = #[(.ref ns)] ∧ Z.Warmed39 U.vm ∧ U.heap = h0) (fun _ _ _ _ _ => True) (fun _ U o U' => ∃ vQ LQ, o = .returned vQ ∧ QLO Z 2 A h0 n0 vQ U'.heap LQ ∧ FrameEnd U o U' LQ ({ frames := 5, cells := 1, slots := 2, locals := 63 } : Room).cells ({ frames := 5, cells := 1, slots := 2, locals := 63 } : Room).slots) := by
  refine MetFree.of_bodySF (plainFor_of_name pn_3) hisR ?_
  intro p e s m args below meth c s₁ Bd hml0 hP hK
  obtain ⟨rfl, hZ, hh⟩ := hP
  have hx := Bd.exec
  have hby := Bd.bytes
  have hml : c.maxLocals = 2 := hml0
  have hown : s.vm.findClass "java/util/List" = some m.cls := findClass_of_methodNamed Bd.named
  have hnm := (name_of_methodNamed Bd.named Bd.method).1
  have X0 : Stand p l e ({ frames := 5, cells := 1, slots := 2, locals := 63 } : Room) s m #[(.ref ns)] below meth c s₁ [] 0 0 := Stand.of_body Bd
  have e0 : s₁.heap = h0 := by rw [← hh, Bd.state]; rfl
  have NF := Fr.nil n0
  have OLD : Ext h0 h0 := own_erefl h0
  refine Gl.out ?_
  refine Gl.go ?_ (fun t k => castTop (ef_rm_lof_2 m ns) k)
  show Gl _ _ _ _ (s₁.setTop (mkF m 0 _ []))
  refine Gl.go ?_ (fun t k => XS.aloadN X0.here hx rfl (hb hby d3_0) rfl rfl k)
  show Gl _ _ _ _ (s₁.setTop (mkF m 1 #[.val (.ref ns), .unset] [(.ref ns)]))
  refine Gl.go ?_ (RA.len (hNS.ext OLD) X0 hx hZ e0 (g := (mkF m 1 #[.val (.ref ns), .unset] [(.ref ns)])) rfl rfl (hb hby d3_1))
  show Gl _ _ _ _ (s₁.setTop (mkF m 2 #[.val (.ref ns), .unset] [(.int (2 : Int32))]))
  refine Gl.go ?_ (fun t k => XS.tswIn X0.here hx rfl (pc0 := 2) (pc' := 45) rfl (hb hby d3_2) rfl (by decide) rfl (by decide) (by decide) k)
  show Gl _ _ _ _ (s₁.setTop (mkF m 45 #[.val (.ref ns), .unset] []))
  obtain ⟨T123, h123, X123, e123, E123, A123, D123, -, st123⟩ := newO X0 hx hZ hown (hw _ (List.mem_of_getElem? (i := 130) rfl)) (hw _ (List.mem_of_getElem? (i := 131) rfl)) (hw _ (List.mem_of_getElem? (i := 132) rfl)) e0 (g := (mkF m 45 #[.val (.ref ns), .unset] [])) rfl (hb hby d3_45) (by decide) (by decide)
  obtain ⟨b123, g123⟩ : ∃ z, z = h0.size := ⟨_, rfl⟩
  rw [← g123] at A123 D123 st123
  have g_b123 : n0 ≤ b123 := Nat.le_trans Z0 (Nat.le_of_eq g123.symm)
  have sz_b123 : (h0).size ≤ b123 := Nat.le_trans OLD.1 (Nat.le_of_eq g123.symm)
  replace OLD := own_oext OLD E123
  replace Z0 := Nat.le_trans Z0 E123.1
  have E_b123 := A123
  have F_e0_b123 : Fld Z h123 b123 "java/util/ImmutableCollections$List12" "e0" "Ljava/lang/Object;" .null := D123 (Or.inr (hw _ (List.mem_of_getElem? (i := 143) rfl))) (ty := (.object "java/lang/Object")) (by decide)
  have F_e1_b123 : Fld Z h123 b123 "java/util/ImmutableCollections$List12" "e1" "Ljava/lang/Object;" .null := D123 (Or.inr (hw _ (List.mem_of_getElem? (i := 145) rfl))) (ty := (.object "java/lang/Object")) (by decide)
  refine Gl.go ?_ st123
  show Gl _ _ _ _ (T123.setTop (mkF m 48 _ [(.ref b123)]))
  refine Gl.go ?_ (fun t k => XS.dup X123.here hx rfl (hb hby d3_48) rfl rfl k)
  show Gl _ _ _ _ (T123.setTop (mkF m 49 _ [(.ref b123), (.ref b123)]))
  refine Gl.go ?_ (fun t k => XS.aloadN X123.here hx rfl (hb hby d3_49) rfl rfl k)
  show Gl _ _ _ _ (T123.setTop (mkF m 50 _ [(.ref ns), (.ref b123), (.ref b123)]))
  refine Gl.go ?_ (fun t k => XS.iconst X123.here hx rfl (hb hby d3_50) k)
  show Gl _ _ _ _ (T123.setTop (mkF m 51 #[.val (.ref ns), .unset] [(.int (0 : Int32)), (.ref ns), (.ref b123), (.ref b123)]))
  refine Gl.go ?_ (RA.rd (hNS.ext OLD) rfl X123 hx hZ e123 (by decide) (by decide) (g := (mkF m 51 #[.val (.ref ns), .unset] [(.int (0 : Int32)), (.ref ns), (.ref b123), (.ref b123)])) rfl rfl (hb hby d3_51))
  show Gl _ _ _ _ (T123.setTop (mkF m 52 _ [(.ref (A 0)), (.ref b123), (.ref b123)]))
  refine Gl.go ?_ (fun t k => XS.aloadN X123.here hx rfl (hb hby d3_52) rfl rfl k)
  show Gl _ _ _ _ (T123.setTop (mkF m 53 _ [(.ref ns), (.ref (A 0)), (.ref b123), (.ref b123)]))
  refine Gl.go ?_ (fun t k => XS.iconst X123.here hx rfl (hb hby d3_53) k)
  show Gl _ _ _ _ (T123.setTop (mkF m 54 #[.val (.ref ns), .unset] [(.int (1 : Int32)), (.ref ns), (.ref (A 0)), (.ref b123), (.ref b123)]))
  refine Gl.go ?_ (RA.rd (hNS.ext OLD) rfl X123 hx hZ e123 (by decide) (by decide) (g := (mkF m 54 #[.val (.ref ns), .unset] [(.int (1 : Int32)), (.ref ns), (.ref (A 0)), (.ref b123), (.ref b123)])) rfl rfl (hb hby d3_54))
  show Gl _ _ _ _ (T123.setTop (mkF m 55 #[.val (.ref ns), .unset] [(.ref (A 1)), (.ref (A 0)), (.ref b123), (.ref b123)]))
  obtain ⟨_, _, ⟨T124, L124, k124, n124⟩, -, X124, ⟨Lc124, hQ124, l124, y124, z124⟩, st124⟩ := X123.specialBack hx (y := (⟨"java/util/ImmutableCollections$List12", "<init>", "(Ljava/lang/Object;Ljava/lang/Object;)V"⟩ : MethodName)) rfl hown (mvT hZ (hw _ (List.mem_of_getElem? (i := 133) rfl))) (mvT hZ (hw _ (List.mem_of_getElem? (i := 134) rfl))) (mvT hZ (hw _ (List.mem_of_getElem? (i := 136) rfl))) (by decide) (backOf (W := 1) (rm19 l Z a0 hw [] b123 (A 0) (A 1)  _ _ h123 n0 Z0 E_b123 g_b123 F_e0_b123 F_e1_b123 ) hZ (hw _ (List.mem_of_getElem? (i := 136) rfl)) (hw _ (List.mem_of_getElem? (i := 132) rfl)) (by decide) (by decide)) (g := (mkF m 55 #[.val (.ref ns), .unset] [(.ref (A 1)), (.ref (A 0)), (.ref b123), (.ref b123)])) rfl (by rw [hml]; rfl) (Steps.refl _) (a := b123) (argsL := [(.ref (A 0)), (.ref (A 1))]) (rest := [(.ref b123)]) (lenOf pd_8 rfl) rfl (by show 2 * 0 + _ ≤ _; exact Nat.le_of_eq rfl) (hb hby d3_55) (fun _ _ => ⟨rfl, e123, (by decide : 1 + 0 ≤ _), (by decide : 2 + 0 ≤ _)⟩)
  dsimp only [Pt.U, Pt.locs, Pt.cells, Pt.slots] at X124 l124 y124 z124 st124 hQ124
  rw [l124, y124, z124] at X124
  clear l124 y124 z124
  obtain ⟨N124q, rfl, K124, ec124, f124_e0, f124_e1⟩ := hQ124
  replace NF := Fr.app NF N124q
  replace OLD := own_okeep OLD K124 (fun y hy => by cases List.mem_singleton.mp hy; exact sz_b123)
  replace Z0 := Nat.le_trans Z0 K124.1
  replace E_b123 := ec124
  replace F_e0_b123 := f124_e0
  replace F_e1_b123 := f124_e1
  refine Gl.tr ?_ st124
  show Gl _ _ _ _ (T124.setTop (mkF m 58 _ [(.ref b123)]))
  obtain ⟨fs, hr, hrun, hended, hW, hsame⟩ := X124.leave (v := some (.ref b123)) (fun h => by rw [Bd.returns] at h; cases h) (BodyLoose.notSynchronized Bd)
  exact Gl.mk ⟨_, _, retOut X124 hx Bd.returns rfl (Or.inr (Or.inr (Or.inr (Or.inr ⟨rfl, rfl, rfl⟩)))) (hb hby d3_58) hr, hrun, hended, _, _, rfl, own_cast (P := fun H v L => QLO Z 2 A h0 n0 v H L) rfl ⟨NF, ⟨b123, rfl, OLD, Or.inl ⟨by decide, (fun _ => ⟨⟨sz_b123, E_b123.lt⟩, E_b123, F_e0_b123⟩), (fun _ => F_e1_b123)⟩⟩⟩, ⟨_, rfl⟩, hW, hsame.mono (by decide) (by decide)⟩
theorem pd_9 : parseMethodDescriptor "([Ljava/lang/Object;)Ljava/util/List;" = some ⟨[(.array (.object "java/lang/Object"))], some (.object "java/util/List")⟩ := by decide +kernel
theorem ef_rm_lof_3 (m : MethodId) (x0 : Addr) : entryFrame m #[(.ref x0)] 2 = mkF m 0 #[.val (.ref x0), .unset] [] := by first | (simp [entryFrame, mkF, argsToLocals, Value.category]; done) | rfl
set_option maxRecDepth 65536 in
set_option maxHeartbeats 40000000 in
theorem rm_lof_3 (l : Launch) (Z : State) (a0 : Array Value) (hw : ∀ d ∈ tables_1, d.before a0 Z = true) (ws : List Jvm.Cond) (ns : Addr) (A : Nat → Addr) (em el : Addr) (h0 : Heap) (n0 : Nat) (Z0 : n0 ≤ h0.size) (hNS : RA Z h0 ns (.object "java/lang/String") (3 : Int32) A) (hE : ∀ i, i < 3 → Exa Z h0 (A i) "java/lang/String") (S_EM : Sta Z h0 "java/util/ImmutableCollections" "EMPTY" "Ljava/lang/Object;" (.ref em)) (S_EL : Sta Z h0 "java/util/ImmutableCollections" "EMPTY_LIST" "Ljava/util/ImmutableCollections$ListN;" (.ref el)) :
    MetFree l (⟨"java/util/List", "of", "([Ljava/lang/Object;)Ljava/util/List;"⟩ : MethodName) (head1 (Jvm.Cond.code (⟨"java/util/List", "of", "([Ljava/lang/Object;)Ljava/util/List;"⟩ : MethodName) jdk_40_method_47_code 2 (some (.object "java/util/List")) :: ws) ({ frames := 6, cells := 2, slots := 5, locals := 77 } : Room)) (fun aQ U => aQ = #[(.ref ns)] ∧ Z.Warmed39 U.vm ∧ U.heap = h0) (fun _ _ _ _ _ => True) (fun _ U o U' => ∃ vQ LQ, o = .returned vQ ∧ QLO Z 3 A h0 n0 vQ U'.heap LQ ∧ FrameEnd U o U' LQ ({ frames := 6, cells := 2, slots := 5, locals := 77 } : Room).cells ({ frames := 6, cells := 2, slots := 5, locals := 77 } : Room).slots) := by
  refine MetFree.of_bodySF (plainFor_of_name pn_3) hisR ?_
  intro p e s m args below meth c s₁ Bd hml0 hP hK
  obtain ⟨rfl, hZ, hh⟩ := hP
  have hx := Bd.exec
  have hby := Bd.bytes
  have hml : c.maxLocals = 2 := hml0
  have hown : s.vm.findClass "java/util/List" = some m.cls := findClass_of_methodNamed Bd.named
  have hnm := (name_of_methodNamed Bd.named Bd.method).1
  have X0 : Stand p l e ({ frames := 6, cells := 2, slots := 5, locals := 77 } : Room) s m #[(.ref ns)] below meth c s₁ [] 0 0 := Stand.of_body Bd
  have e0 : s₁.heap = h0 := by rw [← hh, Bd.state]; rfl
  have NF := Fr.nil n0
  have OLD : Ext h0 h0 := own_erefl h0
  refine Gl.out ?_
  refine Gl.go ?_ (fun t k => castTop (ef_rm_lof_3 m ns) k)
  show Gl _ _ _ _ (s₁.setTop (mkF m 0 _ []))
  refine Gl.go ?_ (fun t k => XS.aloadN X0.here hx rfl (hb hby d3_0) rfl rfl k)
  show Gl _ _ _ _ (s₁.setTop (mkF m 1 #[.val (.ref ns), .unset] [(.ref ns)]))
  refine Gl.go ?_ (RA.len (hNS.ext OLD) X0 hx hZ e0 (g := (mkF m 1 #[.val (.ref ns), .unset] [(.ref ns)])) rfl rfl (hb hby d3_1))
  show Gl _ _ _ _ (s₁.setTop (mkF m 2 #[.val (.ref ns), .unset] [(.int (3 : Int32))]))
  refine Gl.go ?_ (fun t k => XS.tswOut X0.here hx rfl (pc0 := 2) (pc' := 59) rfl (hb hby d3_2) rfl (by decide) (by decide) (by decide) k)
  show Gl _ _ _ _ (s₁.setTop (mkF m 59 _ []))
  refine Gl.go ?_ (fun t k => XS.aloadN X0.here hx rfl (hb hby d3_59) rfl rfl k)
  show Gl _ _ _ _ (s₁.setTop (mkF m 60 #[.val (.ref ns), .unset] [(.ref ns)]))
  obtain ⟨_, _, ⟨T125, L125, k125, n125⟩, -, X125, ⟨Lc125, hQ125, l125, y125, z125⟩, st125⟩ := Jvm.LawKit.callS X0 hx (y := (⟨"java/util/ImmutableCollections", "listFromArray", "([Ljava/lang/Object;)Ljava/util/List;"⟩ : MethodName)) hown (mvT hZ (hw _ (List.mem_of_getElem? (i := 27) rfl))) (mvT hZ (hw _ (List.mem_of_getElem? (i := 28) rfl))) (mvT hZ (hw _ (List.mem_of_getElem? (i := 29) rfl))) (mvT hZ (hw _ (List.mem_of_getElem? (i := 30) rfl))) (by decide) (backOf (W := 0) (rm_lfa_3 l Z a0 hw [] ns A h0 n0 Z0 (hNS.ext OLD) (fun i q => (hE i q).ext OLD)) hZ (hw _ (List.mem_of_getElem? (i := 30) rfl)) (hw _ (List.mem_of_getElem? (i := 29) rfl)) (by decide) (by decide)) (g := (mkF m 60 #[.val (.ref ns), .unset] [(.ref ns)])) rfl (by rw [hml]; rfl) (argsL := [(.ref ns)]) (rest := []) (lenOf pd_9 rfl) rfl (by show 2 * 0 + _ ≤ _; exact Nat.le_of_eq rfl) (hb hby d3_60) (fun _ _ => ⟨rfl, e0, (by decide : 0 + 2 ≤ _), (by decide : 0 + 5 ≤ _)⟩)
  dsimp only [Pt.U, Pt.locs, Pt.cells, Pt.slots] at X125 l125 y125 z125 st125 hQ125
  rw [l125, y125, z125] at X125
  clear l125 y125 z125
  obtain ⟨N125q, ls125, rfl, EX125, LK125⟩ := hQ125
  replace NF := Fr.app NF N125q
  replace OLD := own_oext OLD EX125
  replace Z0 := Nat.le_trans Z0 EX125.1
  refine Gl.go ?_ st125
  show Gl _ _ _ _ (T125.setTop (mkF m 63 _ [(.ref ls125)]))
  obtain ⟨fs, hr, hrun, hended, hW, hsame⟩ := X125.leave (v := some (.ref ls125)) (fun h => by rw [Bd.returns] at h; cases h) (BodyLoose.notSynchronized Bd)
  exact Gl.mk ⟨_, _, retOut X125 hx Bd.returns rfl (Or.inr (Or.inr (Or.inr (Or.inr ⟨rfl, rfl, rfl⟩)))) (hb hby d3_63) hr, hrun, hended, _, _, rfl, own_cast (P := fun H v L => QLO Z 3 A h0 n0 v H L) rfl ⟨NF, ⟨ls125, rfl, OLD, LK125⟩⟩, ⟨_, rfl⟩, hW, hsame.mono (by decide) (by decide)⟩
theorem ef_rm_lof_4 (m : MethodId) (x0 : Addr) : entryFrame m #[(.ref x0)] 2 = mkF m 0 #[.val (.ref x0), .unset] [] := by first | (simp [entryFrame, mkF, argsToLocals, Value.category]; done) | rfl
set_option maxRecDepth 65536 in
set_option maxHeartbeats 40000000 in
theorem rm_lof_4 (l : Launch) (Z : State) (a0 : Array Value) (hw : ∀ d ∈ tables_1, d.before a0 Z = true) (ws : List Jvm.Cond) (ns : Addr) (A : Nat → Addr) (em el : Addr) (h0 : Heap) (n0 : Nat) (Z0 : n0 ≤ h0.size) (hNS : RA Z h0 ns (.object "java/lang/String") (4 : Int32) A) (hE : ∀ i, i < 4 → Exa Z h0 (A i) "java/lang/String") (S_EM : Sta Z h0 "java/util/ImmutableCollections" "EMPTY" "Ljava/lang/Object;" (.ref em)) (S_EL : Sta Z h0 "java/util/ImmutableCollections" "EMPTY_LIST" "Ljava/util/ImmutableCollections$ListN;" (.ref el)) :
    MetFree l (⟨"java/util/List", "of", "([Ljava/lang/Object;)Ljava/util/List;"⟩ : MethodName) (head1 (Jvm.Cond.code (⟨"java/util/List", "of", "([Ljava/lang/Object;)Ljava/util/List;"⟩ : MethodName) jdk_40_method_47_code 2 (some (.object "java/util/List")) :: ws) ({ frames := 6, cells := 2, slots := 6, locals := 77 } : Room)) (fun aQ U => aQ = #[(.ref ns)] ∧ Z.Warmed39 U.vm ∧ U.heap = h0) (fun _ _ _ _ _ => True) (fun _ U o U' => ∃ vQ LQ, o = .returned vQ ∧ QLO Z 4 A h0 n0 vQ U'.heap LQ ∧ FrameEnd U o U' LQ ({ frames := 6, cells := 2, slots := 6, locals := 77 } : Room).cells ({ frames := 6, cells := 2, slots := 6, locals := 77 } : Room).slots) := by
  refine MetFree.of_bodySF (plainFor_of_name pn_3) hisR ?_
  intro p e s m args below meth c s₁ Bd hml0 hP hK
  obtain ⟨rfl, hZ, hh⟩ := hP
  have hx := Bd.exec
  have hby := Bd.bytes
  have hml : c.maxLocals = 2 := hml0
  have hown : s.vm.findClass "java/util/List" = some m.cls := findClass_of_methodNamed Bd.named
  have hnm := (name_of_methodNamed Bd.named Bd.method).1
  have X0 : Stand p l e ({ frames := 6, cells := 2, slots := 6, locals := 77 } : Room) s m #[(.ref ns)] below meth c s₁ [] 0 0 := Stand.of_body Bd
  have e0 : s₁.heap = h0 := by rw [← hh, Bd.state]; rfl
  have NF := Fr.nil n0
  have OLD : Ext h0 h0 := own_erefl h0
  refine Gl.out ?_
  refine Gl.go ?_ (fun t k => castTop (ef_rm_lof_4 m ns) k)
  show Gl _ _ _ _ (s₁.setTop (mkF m 0 _ []))
  refine Gl.go ?_ (fun t k => XS.aloadN X0.here hx rfl (hb hby d3_0) rfl rfl k)
  show Gl _ _ _ _ (s₁.setTop (mkF m 1 #[.val (.ref ns), .unset] [(.ref ns)]))
  refine Gl.go ?_ (RA.len (hNS.ext OLD) X0 hx hZ e0 (g := (mkF m 1 #[.val (.ref ns), .unset] [(.ref ns)])) rfl rfl (hb hby d3_1))
  show Gl _ _ _ _ (s₁.setTop (mkF m 2 #[.val (.ref ns), .unset] [(.int (4 : Int32))]))
  refine Gl.go ?_ (fun t k => XS.tswOut X0.here hx rfl (pc0 := 2) (pc' := 59) rfl (hb hby d3_2) rfl (by decide) (by decide) (by decide) k)
  show Gl _ _ _ _ (s₁.setTop (mkF m 59 _ []))
  refine Gl.go ?_ (fun t k => XS.aloadN X0.here hx rfl (hb hby d3_59) rfl rfl k)
  show Gl _ _ _ _ (s₁.setTop (mkF m 60 #[.val (.ref ns), .unset] [(.ref ns)]))
  obtain ⟨_, _, ⟨T126, L126, k126, n126⟩, -, X126, ⟨Lc126, hQ126, l126, y126, z126⟩, st126⟩ := Jvm.LawKit.callS X0 hx (y := (⟨"java/util/ImmutableCollections", "listFromArray", "([Ljava/lang/Object;)Ljava/util/List;"⟩ : MethodName)) hown (mvT hZ (hw _ (List.mem_of_getElem? (i := 27) rfl))) (mvT hZ (hw _ (List.mem_of_getElem? (i := 28) rfl))) (mvT hZ (hw _ (List.mem_of_getElem? (i := 29) rfl))) (mvT hZ (hw _ (List.mem_of_getElem? (i := 30) rfl))) (by decide) (backOf (W := 0) (rm_lfa_4 l Z a0 hw [] ns A h0 n0 Z0 (hNS.ext OLD) (fun i q => (hE i q).ext OLD)) hZ (hw _ (List.mem_of_getElem? (i := 30) rfl)) (hw _ (List.mem_of_getElem? (i := 29) rfl)) (by decide) (by decide)) (g := (mkF m 60 #[.val (.ref ns), .unset] [(.ref ns)])) rfl (by rw [hml]; rfl) (argsL := [(.ref ns)]) (rest := []) (lenOf pd_9 rfl) rfl (by show 2 * 0 + _ ≤ _; exact Nat.le_of_eq rfl) (hb hby d3_60) (fun _ _ => ⟨rfl, e0, (by decide : 0 + 2 ≤ _), (by decide : 0 + 6 ≤ _)⟩)
  dsimp only [Pt.U, Pt.locs, Pt.cells, Pt.slots] at X126 l126 y126 z126 st126 hQ126
  rw [l126, y126, z126] at X126
  clear l126 y126 z126
  obtain ⟨N126q, ls126, rfl, EX126, LK126⟩ := hQ126
  replace NF := Fr.app NF N126q
  replace OLD := own_oext OLD EX126
  replace Z0 := Nat.le_trans Z0 EX126.1
  refine Gl.go ?_ st126
  show Gl _ _ _ _ (T126.setTop (mkF m 63 _ [(.ref ls126)]))
  obtain ⟨fs, hr, hrun, hended, hW, hsame⟩ := X126.leave (v := some (.ref ls126)) (fun h => by rw [Bd.returns] at h; cases h) (BodyLoose.notSynchronized Bd)
  exact Gl.mk ⟨_, _, retOut X126 hx Bd.returns rfl (Or.inr (Or.inr (Or.inr (Or.inr ⟨rfl, rfl, rfl⟩)))) (hb hby d3_63) hr, hrun, hended, _, _, rfl, own_cast (P := fun H v L => QLO Z 4 A h0 n0 v H L) rfl ⟨NF, ⟨ls126, rfl, OLD, LK126⟩⟩, ⟨_, rfl⟩, hW, hsame.mono (by decide) (by decide)⟩
theorem ef_rm_lof_5 (m : MethodId) (x0 : Addr) : entryFrame m #[(.ref x0)] 2 = mkF m 0 #[.val (.ref x0), .unset] [] := by first | (simp [entryFrame, mkF, argsToLocals, Value.category]; done) | rfl
set_option maxRecDepth 65536 in
set_option maxHeartbeats 40000000 in
theorem rm_lof_5 (l : Launch) (Z : State) (a0 : Array Value) (hw : ∀ d ∈ tables_1, d.before a0 Z = true) (ws : List Jvm.Cond) (ns : Addr) (A : Nat → Addr) (em el : Addr) (h0 : Heap) (n0 : Nat) (Z0 : n0 ≤ h0.size) (hNS : RA Z h0 ns (.object "java/lang/String") (5 : Int32) A) (hE : ∀ i, i < 5 → Exa Z h0 (A i) "java/lang/String") (S_EM : Sta Z h0 "java/util/ImmutableCollections" "EMPTY" "Ljava/lang/Object;" (.ref em)) (S_EL : Sta Z h0 "java/util/ImmutableCollections" "EMPTY_LIST" "Ljava/util/ImmutableCollections$ListN;" (.ref el)) :
    MetFree l (⟨"java/util/List", "of", "([Ljava/lang/Object;)Ljava/util/List;"⟩ : MethodName) (head1 (Jvm.Cond.code (⟨"java/util/List", "of", "([Ljava/lang/Object;)Ljava/util/List;"⟩ : MethodName) jdk_40_method_47_code 2 (some (.object "java/util/List")) :: ws) ({ frames := 6, cells := 2, slots := 7, locals := 77 } : Room)) (fun aQ U => aQ = #[(.ref ns)] ∧ Z.Warmed39 U.vm ∧ U.heap = h0) (fun _ _ _ _ _ => True) (fun _ U o U' => ∃ vQ LQ, o = .returned vQ ∧ QLO Z 5 A h0 n0 vQ U'.heap LQ ∧ FrameEnd U o U' LQ ({ frames := 6, cells := 2, slots := 7, locals := 77 } : Room).cells ({ frames := 6, cells := 2, slots := 7, locals := 77 } : Room).slots) := by
  refine MetFree.of_bodySF (plainFor_of_name pn_3) hisR ?_
  intro p e s m args below meth c s₁ Bd hml0 hP hK
  obtain ⟨rfl, hZ, hh⟩ := hP
  have hx := Bd.exec
  have hby := Bd.bytes
  have hml : c.maxLocals = 2 := hml0
  have hown : s.vm.findClass "java/util/List" = some m.cls := findClass_of_methodNamed Bd.named
  have hnm := (name_of_methodNamed Bd.named Bd.method).1
  have X0 : Stand p l e ({ frames := 6, cells := 2, slots := 7, locals := 77 } : Room) s m #[(.ref ns)] below meth c s₁ [] 0 0 := Stand.of_body Bd
  have e0 : s₁.heap = h0 := by rw [← hh, Bd.state]; rfl
  have NF := Fr.nil n0
  have OLD : Ext h0 h0 := own_erefl h0
  refine Gl.out ?_
  refine Gl.go ?_ (fun t k => castTop (ef_rm_lof_5 m ns) k)
  show Gl _ _ _ _ (s₁.setTop (mkF m 0 _ []))
  refine Gl.go ?_ (fun t k => XS.aloadN X0.here hx rfl (hb hby d3_0) rfl rfl k)
  show Gl _ _ _ _ (s₁.setTop (mkF m 1 #[.val (.ref ns), .unset] [(.ref ns)]))
  refine Gl.go ?_ (RA.len (hNS.ext OLD) X0 hx hZ e0 (g := (mkF m 1 #[.val (.ref ns), .unset] [(.ref ns)])) rfl rfl (hb hby d3_1))
  show Gl _ _ _ _ (s₁.setTop (mkF m 2 #[.val (.ref ns), .unset] [(.int (5 : Int32))]))
  refine Gl.go ?_ (fun t k => XS.tswOut X0.here hx rfl (pc0 := 2) (pc' := 59) rfl (hb hby d3_2) rfl (by decide) (by decide) (by decide) k)
  show Gl _ _ _ _ (s₁.setTop (mkF m 59 _ []))
  refine Gl.go ?_ (fun t k => XS.aloadN X0.here hx rfl (hb hby d3_59) rfl rfl k)
  show Gl _ _ _ _ (s₁.setTop (mkF m 60 #[.val (.ref ns), .unset] [(.ref ns)]))
  obtain ⟨_, _, ⟨T127, L127, k127, n127⟩, -, X127, ⟨Lc127, hQ127, l127, y127, z127⟩, st127⟩ := Jvm.LawKit.callS X0 hx (y := (⟨"java/util/ImmutableCollections", "listFromArray", "([Ljava/lang/Object;)Ljava/util/List;"⟩ : MethodName)) hown (mvT hZ (hw _ (List.mem_of_getElem? (i := 27) rfl))) (mvT hZ (hw _ (List.mem_of_getElem? (i := 28) rfl))) (mvT hZ (hw _ (List.mem_of_getElem? (i := 29) rfl))) (mvT hZ (hw _ (List.mem_of_getElem? (i := 30) rfl))) (by decide) (backOf (W := 0) (rm_lfa_5 l Z a0 hw [] ns A h0 n0 Z0 (hNS.ext OLD) (fun i q => (hE i q).ext OLD)) hZ (hw _ (List.mem_of_getElem? (i := 30) rfl)) (hw _ (List.mem_of_getElem? (i := 29) rfl)) (by decide) (by decide)) (g := (mkF m 60 #[.val (.ref ns), .unset] [(.ref ns)])) rfl (by rw [hml]; rfl) (argsL := [(.ref ns)]) (rest := []) (lenOf pd_9 rfl) rfl (by show 2 * 0 + _ ≤ _; exact Nat.le_of_eq rfl) (hb hby d3_60) (fun _ _ => ⟨rfl, e0, (by decide : 0 + 2 ≤ _), (by decide : 0 + 7 ≤ _)⟩)
  dsimp only [Pt.U, Pt.locs, Pt.cells, Pt.slots] at X127 l127 y127 z127 st127 hQ127
  rw [l127, y127, z127] at X127
  clear l127 y127 z127
  obtain ⟨N127q, ls127, rfl, EX127, LK127⟩ := hQ127
  replace NF := Fr.app NF N127q
  replace OLD := own_oext OLD EX127
  replace Z0 := Nat.le_trans Z0 EX127.1
  refine Gl.go ?_ st127
  show Gl _ _ _ _ (T127.setTop (mkF m 63 _ [(.ref ls127)]))
  obtain ⟨fs, hr, hrun, hended, hW, hsame⟩ := X127.leave (v := some (.ref ls127)) (fun h => by rw [Bd.returns] at h; cases h) (BodyLoose.notSynchronized Bd)
  exact Gl.mk ⟨_, _, retOut X127 hx Bd.returns rfl (Or.inr (Or.inr (Or.inr (Or.inr ⟨rfl, rfl, rfl⟩)))) (hb hby d3_63) hr, hrun, hended, _, _, rfl, own_cast (P := fun H v L => QLO Z 5 A h0 n0 v H L) rfl ⟨NF, ⟨ls127, rfl, OLD, LK127⟩⟩, ⟨_, rfl⟩, hW, hsame.mono (by decide) (by decide)⟩
/-- an int array that holds xs -/
def IA (Z : State) (h : Heap) (a : Addr) (xs : List Int32) : Prop := ∃ k, Arv Z h a k .int (Int32.ofNat xs.length) (xs.map Value.int) (.int 0) ∧ Exa Z h a "[I"
theorem IA.ext {Z : State} {h h' : Heap} {a : Addr} {xs : List Int32} (I : IA Z h a xs) (E : Ext h h') : IA Z h' a xs := by
  obtain ⟨k, V, X⟩ := I; exact ⟨k, V.ext E, X.ext E⟩
theorem own_ia {Z : State} {h : Heap} {a : Addr} {k : ClassId} {N : Int32} (ys xs : List Int32) (V : Arv Z h a k .int N (ys.map Value.int) (.int 0)) (X : Exa Z h a "[I") (e : ys = xs) (hN : N = Int32.ofNat xs.length) : IA Z h a xs := by
  subst e; subst hN; exact ⟨k, V, X⟩
def own_bits : Nat → List Int32
  | 0 => []
  | 1 => [1]
  | 2 => [1, 2]
  | 3 => [1, 2, 4]
  | 4 => [1, 2, 4, 8]
  | _ => [1, 2, 4, 8, 16]
def QA1 (Z : State) (a : Addr) (n : Nat) (A : Nat → Addr) (h0 : Heap) (n0 : Nat) (v : Option Value) (h : Heap) (L : List Loc) : Prop := Fr n0 L ∧ v = none ∧ Keep h0 h [a] ∧ Exa Z h a "com/example/grantline/grantline/engine/Actions" ∧ ∃ ls ia, Fld Z h a "com/example/grantline/grantline/engine/Actions" "names" "Ljava/util/List;" (.ref ls) ∧ Fld Z h a "com/example/grantline/grantline/engine/Actions" "implied" "[I" (.ref ia) ∧ LK Z h ls n A ∧ IA Z h ia (own_bits n)
theorem d2_0 : decode prog_18_method_1_code 0 = .ok (.aload_n 0, 1) := by decide +kernel
theorem d2_1 : decode prog_18_method_1_code 1 = .ok (.aload_n 1, 1) := by decide +kernel
theorem d2_2 : decode prog_18_method_1_code 2 = .ok (.invokestatic 1, 3) := by decide +kernel
theorem d2_5 : decode prog_18_method_1_code 5 = .ok (.aload_n 1, 1) := by decide +kernel
theorem d2_6 : decode prog_18_method_1_code 6 = .ok (.arraylength, 1) := by decide +kernel
theorem d2_7 : decode prog_18_method_1_code 7 = .ok (.newarray .int, 2) := by decide +kernel
theorem d2_9 : decode prog_18_method_1_code 9 = .ok (.invokespecial 7, 3) := by decide +kernel
theorem d2_12 : decode prog_18_method_1_code 12 = .ok (.iconst 0, 1) := by decide +kernel
theorem d2_13 : decode prog_18_method_1_code 13 = .ok (.istore_n 2, 1) := by decide +kernel
theorem d2_14 : decode prog_18_method_1_code 14 = .ok (.iload_n 2, 1) := by decide +kernel
theorem d2_15 : decode prog_18_method_1_code 15 = .ok (.aload_n 1, 1) := by decide +kernel
theorem d2_16 : decode prog_18_method_1_code 16 = .ok (.arraylength, 1) := by decide +kernel
theorem d2_17 : decode prog_18_method_1_code 17 = .ok (.if_icmp .ge 18, 3) := by decide +kernel
theorem d2_20 : decode prog_18_method_1_code 20 = .ok (.aload_n 0, 1) := by decide +kernel
theorem d2_21 : decode prog_18_method_1_code 21 = .ok (.getfield 13, 3) := by decide +kernel
theorem d2_24 : decode prog_18_method_1_code 24 = .ok (.iload_n 2, 1) := by decide +kernel
theorem d2_25 : decode prog_18_method_1_code 25 = .ok (.iconst 1, 1) := by decide +kernel
theorem d2_26 : decode prog_18_method_1_code 26 = .ok (.iload_n 2, 1) := by decide +kernel
theorem d2_27 : decode prog_18_method_1_code 27 = .ok (.ishl, 1) := by decide +kernel
theorem d2_28 : decode prog_18_method_1_code 28 = .ok (.iastore, 1) := by decide +kernel
theorem d2_29 : decode prog_18_method_1_code 29 = .ok (.iinc 2 1, 3) := by decide +kernel
theorem d2_32 : decode prog_18_method_1_code 32 = .ok (.goto (-18), 3) := by decide +kernel
theorem d2_35 : decode prog_18_method_1_code 35 = .ok (.return_, 1) := by decide +kernel
theorem pn_2 : plainName "com/example/grantline/grantline/engine/Actions" = true := by first | (simp [plainName, overriddenIn]; done) | decide +kernel
theorem pd_10 : parseMethodDescriptor "(Ljava/util/List;[I)V" = some ⟨[(.object "java/util/List"), (.array .int)], none⟩ := by decide +kernel
theorem ef_rm_ai1_0 (m : MethodId) (x0 : Addr) (x1 : Addr) : entryFrame m #[(.ref x0), (.ref x1)] 3 = mkF m 0 #[.val (.ref x0), .val (.ref x1), .unset] [] := by first | (simp [entryFrame, mkF, argsToLocals, Value.category]; done) | rfl
set_option maxRecDepth 65536 in
set_option maxHeartbeats 40000000 in
theorem rm_ai1_0 (l : Launch) (Z : State) (a0 : Array Value) (hw : ∀ d ∈ tables_1, d.before a0 Z = true) (ws : List Jvm.Cond) (a : Addr) (ns : Addr) (A : Nat → Addr) (em el : Addr) (u_names u_implied : Value) (h0 : Heap) (n0 : Nat) (Z0 : n0 ≤ h0.size) (E_a : Exa Z h0 a "com/example/grantline/grantline/engine/Actions") (g_a : n0 ≤ a) (F_names_a : Fld Z h0 a "com/example/grantline/grantline/engine/Actions" "names" "Ljava/util/List;" u_names) (F_implied_a : Fld Z h0 a "com/example/grantline/grantline/engine/Actions" "implied" "[I" u_implied) (hna : ns ≠ a) (hNS : RA Z h0 ns (.object "java/lang/String") (0 : Int32) A) (hE : ∀ i, i < 0 → Exa Z h0 (A i) "java/lang/String") (S_EM : Sta Z h0 "java/util/ImmutableCollections" "EMPTY" "Ljava/lang/Object;" (.ref em)) (S_EL : Sta Z h0 "java/util/ImmutableCollections" "EMPTY_LIST" "Ljava/util/ImmutableCollections$ListN;" (.ref el)) :
    MetFree l (⟨"com/example/grantline/grantline/engine/Actions", "<init>", "([Ljava/lang/String;)V"⟩ : MethodName) (head1 (Jvm.Cond.code (⟨"com/example/grantline/grantline/engine/Actions", "<init>", "([Ljava/lang/String;)V"⟩ : MethodName) prog_18_method_1_code 3 none :: ws) ({ frames := 7, cells := 3, slots := 12, locals := 91 } : Room)) (fun aQ U => aQ = #[(.ref a), (.ref ns)] ∧ Z.Warmed39 U.vm ∧ U.heap = h0) (fun _ _ _ _ _ => True) (fun _ U o U' => ∃ vQ LQ, o = .returned vQ ∧ QA1 Z a 0 A h0 n0 vQ U'.heap LQ ∧ FrameEnd U o U' LQ ({ frames := 7, cells := 3, slots := 12, locals := 91 } : Room).cells ({ frames := 7, cells := 3, slots := 12, locals := 91 } : Room).slots) := by
  refine MetFree.of_bodySF (plainFor_of_name pn_2) hisR ?_
  intro p e s m args below meth c s₁ Bd hml0 hP hK
  obtain ⟨rfl, hZ, hh⟩ := hP
  have hx := Bd.exec
  have hby := Bd.bytes
  have hml : c.maxLocals = 3 := hml0
  have hown : s.vm.findClass "com/example/grantline/grantline/engine/Actions" = some m.cls := findClass_of_methodNamed Bd.named
  have hnm := (name_of_methodNamed Bd.named Bd.method).1
  have X0 : Stand p l e ({ frames := 7, cells := 3, slots := 12, locals := 91 } : Room) s m #[(.ref a), (.ref ns)] below meth c s₁ [] 0 0 := Stand.of_body Bd
  have e0 : s₁.heap = h0 := by rw [← hh, Bd.state]; rfl
  have NF := Fr.nil n0
  have KP : Keep h0 h0 [a] := Keep.refl h0 [a]
  have ha0 := E_a.lt
  refine Gl.out ?_
  refine Gl.go ?_ (fun t k => castTop (ef_rm_ai1_0 m a ns) k)
  show Gl _ _ _ _ (s₁.setTop (mkF m 0 _ []))
  refine Gl.go ?_ (fun t k => XS.aloadN X0.here hx rfl (hb hby d2_0) rfl rfl k)
  show Gl _ _ _ _ (s₁.setTop (mkF m 1 _ [(.ref a)]))
  refine Gl.go ?_ (fun t k => XS.aloadN X0.here hx rfl (hb hby d2_1) rfl rfl k)
  show Gl _ _ _ _ (s₁.setTop (mkF m 2 #[.val (.ref a), .val (.ref ns), .unset] [(.ref ns), (.ref a)]))
  obtain ⟨_, _, ⟨T128, L128, k128, n128⟩, -, X128, ⟨Lc128, hQ128, l128, y128, z128⟩, st128⟩ := Jvm.LawKit.callS X0 hx (y := (⟨"java/util/List", "of", "([Ljava/lang/Object;)Ljava/util/List;"⟩ : MethodName)) hown (mvT hZ (hw _ (List.mem_of_getElem? (i := 23) rfl))) (mvT hZ (hw _ (List.mem_of_getElem? (i := 24) rfl))) (mvT hZ (hw _ (List.mem_of_getElem? (i := 25) rfl))) (mvT hZ (hw _ (List.mem_of_getElem? (i := 26) rfl))) (by decide) (backOf (W := 1) (rm_lof_0 l Z a0 hw [] ns A em el h0 n0 Z0 hNS hE S_EM S_EL) hZ (hw _ (List.mem_of_getElem? (i := 26) rfl)) (hw _ (List.mem_of_getElem? (i := 25) rfl)) (by decide) (by decide)) (g := (mkF m 2 #[.val (.ref a), .val (.ref ns), .unset] [(.ref ns), (.ref a)])) rfl (by rw [hml]; rfl) (argsL := [(.ref ns)]) (rest := [(.ref a)]) (lenOf pd_9 rfl) rfl (by show 2 * 0 + _ ≤ _; exact Nat.le_of_eq rfl) (hb hby d2_2) (fun _ _ => ⟨rfl, e0, (by decide : 0 + 0 ≤ _), (by decide : 0 + 0 ≤ _)⟩)
  dsimp only [Pt.U, Pt.locs, Pt.cells, Pt.slots] at X128 l128 y128 z128 st128 hQ128
  rw [l128, y128, z128] at X128
  clear l128 y128 z128
  obtain ⟨N128q, ls128, rfl, EX128, LK128⟩ := hQ128
  replace NF := Fr.app NF N128q
  replace KP := KP.ext EX128
  replace E_a := E_a.ext EX128
  replace hNS := hNS.ext EX128
  replace F_names_a := F_names_a.ext EX128
  replace F_implied_a := F_implied_a.ext EX128
  replace Z0 := Nat.le_trans Z0 EX128.1
  have HI := Nat.le_refl T128.heap.size
  refine Gl.go ?_ st128
  show Gl _ _ _ _ (T128.setTop (mkF m 5 _ [(.ref ls128), (.ref a)]))
  refine Gl.go ?_ (fun t k => XS.aloadN X128.here hx rfl (hb hby d2_5) rfl rfl k)
  show Gl _ _ _ _ (T128.setTop (mkF m 6 #[.val (.ref a), .val (.ref ns), .unset] [(.ref ns), (.ref ls128), (.ref a)]))
  refine Gl.go ?_ (RA.len hNS X128 hx hZ rfl (g := (mkF m 6 #[.val (.ref a), .val (.ref ns), .unset] [(.ref ns), (.ref ls128), (.ref a)])) rfl rfl (hb hby d2_6))
  show Gl _ _ _ _ (T128.setTop (mkF m 7 #[.val (.ref a), .val (.ref ns), .unset] [(.int (0 : Int32)), (.ref ls128), (.ref a)]))
  obtain ⟨T129, h129, k129, X129, e129, E129, A129, B129, st129⟩ := newPE X128 hx hZ (hw _ (List.mem_of_getElem? (i := 70) rfl)) rfl (g := (mkF m 7 #[.val (.ref a), .val (.ref ns), .unset] [(.int (0 : Int32)), (.ref ls128), (.ref a)])) rfl (hb hby d2_7) rfl (by decide) (cap := 0) (by decide) (by decide) (by decide) (by decide) (ad := "[I") (by decide)
  obtain ⟨b129, g129⟩ : ∃ z, z = T128.heap.size := ⟨_, rfl⟩
  rw [← g129] at A129 B129 st129
  have g_b129 : n0 ≤ b129 := Nat.le_trans Z0 (Nat.le_of_eq g129.symm)
  have ne_a_b129 : a ≠ b129 := Nat.ne_of_lt (Nat.lt_of_lt_of_le E_a.lt (Nat.le_of_eq g129.symm))
  have ne_ns_b129 : ns ≠ b129 := Nat.ne_of_lt (Nat.lt_of_lt_of_le hNS.lt (Nat.le_of_eq g129.symm))
  have sz_b129 : (h0).size ≤ b129 := Nat.le_trans KP.1 (Nat.le_of_eq g129.symm)
  have hi_b129 := Nat.le_trans HI (Nat.le_of_eq g129.symm)
  replace KP := KP.ext E129
  replace LK128 := LK128.ext E129
  replace HI := Nat.le_trans HI E129.1
  replace E_a := E_a.ext E129
  replace hNS := hNS.ext E129
  replace F_names_a := F_names_a.ext E129
  replace F_implied_a := F_implied_a.ext E129
  replace Z0 := Nat.le_trans Z0 E129.1
  have V_b129 : Arv Z h129 b129 k129 .int (0 : Int32) [] (.int (0 : Int32)) := (Arv.new A129 (by decide)).pad (pad_rep [] (.int (0 : Int32)) 0)
  have EI_b129 := B129
  refine Gl.go ?_ st129
  show Gl _ _ _ _ (T129.setTop (mkF m 9 #[.val (.ref a), .val (.ref ns), .unset] [(.ref b129), (.ref ls128), (.ref a)]))
  obtain ⟨_, _, ⟨T130, L130, k130, n130⟩, -, X130, ⟨Lc130, hQ130, l130, y130, z130⟩, st130⟩ := X129.specialBack hx (y := (⟨"com/example/grantline/grantline/engine/Actions", "<init>", "(Ljava/util/List;[I)V"⟩ : MethodName)) rfl hown (mvT hZ (hw _ (List.mem_of_getElem? (i := 71) rfl))) (mvT hZ (hw _ (List.mem_of_getElem? (i := 72) rfl))) (mvT hZ (hw _ (List.mem_of_getElem? (i := 73) rfl))) (by decide) (backOf (W := 0) (rm11 l Z a0 hw [] a ls128 b129  _ _ h129 n0 Z0 E_a g_a F_names_a F_implied_a ) hZ (hw _ (List.mem_of_getElem? (i := 73) rfl)) (hw _ (List.mem_of_getElem? (i := 19) rfl)) (by decide) (by decide)) (g := (mkF m 9 #[.val (.ref a), .val (.ref ns), .unset] [(.ref b129), (.ref ls128), (.ref a)])) rfl (by rw [hml]; rfl) (Steps.refl _) (a := a) (argsL := [(.ref ls128), (.ref b129)]) (rest := []) (lenOf pd_10 rfl) rfl (by show 2 * 0 + _ ≤ _; exact Nat.le_of_eq rfl) (hb hby d2_9) (fun _ _ => ⟨rfl, e129, (by decide : 1 + 0 ≤ _), (by decide : 0 + 0 ≤ _)⟩)
  dsimp only [Pt.U, Pt.locs, Pt.cells, Pt.slots] at X130 l130 y130 z130 st130 hQ130
  rw [l130, y130, z130] at X130
  clear l130 y130 z130
  obtain ⟨N130q, rfl, K130, ec130, f130_names, f130_implied⟩ := hQ130
  replace NF := Fr.app NF N130q
  replace KP := KP.trans K130 (fun y hy => Or.inl hy)
  replace LK128 := LK128.keep K130 (Or.inl ha0)
  replace HI := Nat.le_trans HI K130.1
  replace hNS := hNS.keep K130 (ninS hna nin0)
  replace V_b129 := V_b129.keep K130 (ninS (Ne.symm ne_a_b129) nin0)
  replace EI_b129 := EI_b129.keep K130
  replace Z0 := Nat.le_trans Z0 K130.1
  replace E_a := ec130
  replace F_names_a := f130_names
  replace F_implied_a := f130_implied
  refine Gl.tr ?_ st130
  show Gl _ _ _ _ (T130.setTop (mkF m 12 _ []))
  refine Gl.go ?_ (fun t k => XS.iconst X130.here hx rfl (hb hby d2_12) k)
  show Gl _ _ _ _ (T130.setTop (mkF m 13 #[.val (.ref a), .val (.ref ns), .unset] [(.int (0 : Int32))]))
  refine Gl.go ?_ (fun t k => XS.istoreN X130.here hx rfl (hb hby d2_13) rfl (l' := #[.val (.ref a), .val (.ref ns), .val (.int (0 : Int32))]) rfl k)
  show Gl _ _ _ _ (T130.setTop (mkF m 14 _ []))
  refine Gl.go ?_ (fun t k => XS.iloadN X130.here hx rfl (hb hby d2_14) rfl k)
  show Gl _ _ _ _ (T130.setTop (mkF m 15 _ [(.int (0 : Int32))]))
  refine Gl.go ?_ (fun t k => XS.aloadN X130.here hx rfl (hb hby d2_15) rfl rfl k)
  show Gl _ _ _ _ (T130.setTop (mkF m 16 #[.val (.ref a), .val (.ref ns), .val (.int (0 : Int32))] [(.ref ns), (.int (0 : Int32))]))
  refine Gl.go ?_ (RA.len hNS X130 hx hZ rfl (g := (mkF m 16 #[.val (.ref a), .val (.ref ns), .val (.int (0 : Int32))] [(.ref ns), (.int (0 : Int32))])) rfl rfl (hb hby d2_16))
  show Gl _ _ _ _ (T130.setTop (mkF m 17 _ [(.int (0 : Int32)), (.int (0 : Int32))]))
  refine Gl.go ?_ (fun t k => XS.icmpYes X130.here hx rfl (pc0 := 17) (pc' := 35) rfl (hb hby d2_17) rfl (flt (by decide : ¬ ((0 : Int32) < (0 : Int32)))).2.1 (by decide) (by decide) k)
  show Gl _ _ _ _ (T130.setTop (mkF m 35 _ []))
  obtain ⟨fs, hr, hrun, hended, hW, hsame⟩ := X130.leave (v := none) (fun _ => rfl) (BodyLoose.notSynchronized Bd)
  exact Gl.mk ⟨_, _, X130.returnOut hx Bd.returns (hb hby d2_35) hr, hrun, hended, _, _, rfl, own_cast (P := fun H v L => QA1 Z a 0 A h0 n0 v H L) rfl ⟨NF, ⟨rfl, KP, E_a, _, b129, F_names_a, F_implied_a, LK128.lk, own_ia [] (own_bits 0) V_b129 EI_b129 (by decide) (by decide)⟩⟩, ⟨_, rfl⟩, hW, hsame.mono (by decide) (by decide)⟩
theorem ef_rm_ai1_1 (m : MethodId) (x0 : Addr) (x1 : Addr) : entryFrame m #[(.ref x0), (.ref x1)] 3 = mkF m 0 #[.val (.ref x0), .val (.ref x1), .unset] [] := by first | (simp [entryFrame, mkF, argsToLocals, Value.category]; done) | rfl
set_option maxRecDepth 65536 in
set_option maxHeartbeats 40000000 in
theorem rm_ai1_1 (l : Launch) (Z : State) (a0 : Array Value) (hw : ∀ d ∈ tables_1, d.before a0 Z = true) (ws : List Jvm.Cond) (a : Addr) (ns : Addr) (A : Nat → Addr) (em el : Addr) (u_names u_implied : Value) (h0 : Heap) (n0 : Nat) (Z0 : n0 ≤ h0.size) (E_a : Exa Z h0 a "com/example/grantline/grantline/engine/Actions") (g_a : n0 ≤ a) (F_names_a : Fld Z h0 a "com/example/grantline/grantline/engine/Actions" "names" "Ljava/util/List;" u_names) (F_implied_a : Fld Z h0 a "com/example/grantline/grantline/engine/Actions" "implied" "[I" u_implied) (hna : ns ≠ a) (hNS : RA Z h0 ns (.object "java/lang/String") (1 : Int32) A) (hE : ∀ i, i < 1 → Exa Z h0 (A i) "java/lang/String") (S_EM : Sta Z h0 "java/util/ImmutableCollections" "EMPTY" "Ljava/lang/Object;" (.ref em)) (S_EL : Sta Z h0 "java/util/ImmutableCollections" "EMPTY_LIST" "Ljava/util/ImmutableCollections$ListN;" (.ref el)) :
    MetFree l (⟨"com/example/grantline/grantline/engine/Actions", "<init>", "([Ljava/lang/String;)V"⟩ : MethodName) (head1 (Jvm.Cond.code (⟨"com/example/grantline/grantline/engine/Actions", "<init>", "([Ljava/lang/String;)V"⟩ : MethodName) prog_18_method_1_code 3 none :: ws) ({ frames := 7, cells := 3, slots := 12, locals := 91 } : Room)) (fun aQ U => aQ = #[(.ref a), (.ref ns)] ∧ Z.Warmed39 U.vm ∧ U.heap = h0) (fun _ _ _ _ _ => True) (fun _ U o U' => ∃ vQ LQ, o = .returned vQ ∧ QA1 Z a 1 A h0 n0 vQ U'.heap LQ ∧ FrameEnd U o U' LQ ({ frames := 7, cells := 3, slots := 12, locals := 91 } : Room).cells ({ frames := 7, cells := 3, slots := 12, locals := 91 } : Room).slots) := by
  refine MetFree.of_bodySF (plainFor_of_name pn_2) hisR ?_
  intro p e s m args below meth c s₁ Bd hml0 hP hK
  obtain ⟨rfl, hZ, hh⟩ := hP
  have hx := Bd.exec
  have hby := Bd.bytes
  have hml : c.maxLocals = 3 := hml0
  have hown : s.vm.findClass "com/example/grantline/grantline/engine/Actions" = some m.cls := findClass_of_methodNamed Bd.named
  have hnm := (name_of_methodNamed Bd.named Bd.method).1
  have X0 : Stand p l e ({ frames := 7, cells := 3, slots := 12, locals := 91 } : Room) s m #[(.ref a), (.ref ns)] below meth c s₁ [] 0 0 := Stand.of_body Bd
  have e0 : s₁.heap = h0 := by rw [← hh, Bd.state]; rfl
  have NF := Fr.nil n0
  have KP : Keep h0 h0 [a] := Keep.refl h0 [a]
  have ha0 := E_a.lt
  refine Gl.out ?_
  refine Gl.go ?_ (fun t k => castTop (ef_rm_ai1_1 m a ns) k)
  show Gl _ _ _ _ (s₁.setTop (mkF m 0 _ []))
  refine Gl.go ?_ (fun t k => XS.aloadN X0.here hx rfl (hb hby d2_0) rfl rfl k)
  show Gl _ _ _ _ (s₁.setTop (mkF m 1 _ [(.ref a)]))
  refine Gl.go ?_ (fun t k => XS.aloadN X0.here hx rfl (hb hby d2_1) rfl rfl k)
  show Gl _ _ _ _ (s₁.setTop (mkF m 2 #[.val (.ref a), .val (.ref ns), .unset] [(.ref ns), (.ref a)]))
  obtain ⟨_, _, ⟨T131, L131, k131, n131⟩, -, X131, ⟨Lc131, hQ131, l131, y131, z131⟩, st131⟩ := Jvm.LawKit.callS X0 hx (y := (⟨"java/util/List", "of", "([Ljava/lang/Object;)Ljava/util/List;"⟩ : MethodName)) hown (mvT hZ (hw _ (List.mem_of_getElem? (i := 23) rfl))) (mvT hZ (hw _ (List.mem_of_getElem? (i := 24) rfl))) (mvT hZ (hw _ (List.mem_of_getElem? (i := 25) rfl))) (mvT hZ (hw _ (List.mem_of_getElem? (i := 26) rfl))) (by decide) (backOf (W := 1) (rm_lof_1 l Z a0 hw [] ns A em el h0 n0 Z0 hNS hE S_EM S_EL) hZ (hw _ (List.mem_of_getElem? (i := 26) rfl)) (hw _ (List.mem_of_getElem? (i := 25) rfl)) (by decide) (by decide)) (g := (mkF m 2 #[.val (.ref a), .val (.ref ns), .unset] [(.ref ns), (.ref a)])) rfl (by rw [hml]; rfl) (argsL := [(.ref ns)]) (rest := [(.ref a)]) (lenOf pd_9 rfl) rfl (by show 2 * 0 + _ ≤ _; exact Nat.le_of_eq rfl) (hb hby d2_2) (fun _ _ => ⟨rfl, e0, (by decide : 0 + 1 ≤ _), (by decide : 0 + 2 ≤ _)⟩)
  dsimp only [Pt.U, Pt.locs, Pt.cells, Pt.slots] at X131 l131 y131 z131 st131 hQ131
  rw [l131, y131, z131] at X131
  clear l131 y131 z131
  obtain ⟨N131q, ls131, rfl, EX131, LK131⟩ := hQ131
  replace NF := Fr.app NF N131q
  replace KP := KP.ext EX131
  replace E_a := E_a.ext EX131
  replace hNS := hNS.ext EX131
  replace F_names_a := F_names_a.ext EX131
  replace F_implied_a := F_implied_a.ext EX131
  replace Z0 := Nat.le_trans Z0 EX131.1
  have HI := Nat.le_refl T131.heap.size
  refine Gl.go ?_ st131
  show Gl _ _ _ _ (T131.setTop (mkF m 5 _ [(.ref ls131), (.ref a)]))
  refine Gl.go ?_ (fun t k => XS.aloadN X131.here hx rfl (hb hby d2_5) rfl rfl k)
  show Gl _ _ _ _ (T131.setTop (mkF m 6 #[.val (.ref a), .val (.ref ns), .unset] [(.ref ns), (.ref ls131), (.ref a)]))
  refine Gl.go ?_ (RA.len hNS X131 hx hZ rfl (g := (mkF m 6 #[.val (.ref a), .val (.ref ns), .unset] [(.ref ns), (.ref ls131), (.ref a)])) rfl rfl (hb hby d2_6))
  show Gl _ _ _ _ (T131.setTop (mkF m 7 #[.val (.ref a), .val (.ref ns), .unset] [(.int (1 : Int32)), (.ref ls131), (.ref a)]))
  obtain ⟨T132, h132, k132, X132, e132, E132, A132, B132, st132⟩ := newPE X131 hx hZ (hw _ (List.mem_of_getElem? (i := 70) rfl)) rfl (g := (mkF m 7 #[.val (.ref a), .val (.ref ns), .unset] [(.int (1 : Int32)), (.ref ls131), (.ref a)])) rfl (hb hby d2_7) rfl (by decide) (cap := 1) (by decide) (by decide) (by decide) (by decide) (ad := "[I") (by decide)
  obtain ⟨b132, g132⟩ : ∃ z, z = T131.heap.size := ⟨_, rfl⟩
  rw [← g132] at A132 B132 st132
  have g_b132 : n0 ≤ b132 := Nat.le_trans Z0 (Nat.le_of_eq g132.symm)
  have ne_a_b132 : a ≠ b132 := Nat.ne_of_lt (Nat.lt_of_lt_of_le E_a.lt (Nat.le_of_eq g132.symm))
  have ne_ns_b132 : ns ≠ b132 := Nat.ne_of_lt (Nat.lt_of_lt_of_le hNS.lt (Nat.le_of_eq g132.symm))
  have sz_b132 : (h0).size ≤ b132 := Nat.le_trans KP.1 (Nat.le_of_eq g132.symm)
  have hi_b132 := Nat.le_trans HI (Nat.le_of_eq g132.symm)
  replace KP := KP.ext E132
  replace LK131 := LK131.ext E132
  replace HI := Nat.le_trans HI E132.1
  replace E_a := E_a.ext E132
  replace hNS := hNS.ext E132
  replace F_names_a := F_names_a.ext E132
  replace F_implied_a := F_implied_a.ext E132
  replace Z0 := Nat.le_trans Z0 E132.1
  have V_b132 : Arv Z h132 b132 k132 .int (1 : Int32) [(.int (0 : Int32))] (.int (0 : Int32)) := (Arv.new A132 (by decide)).pad (pad_rep [] (.int (0 : Int32)) 1)
  have EI_b132 := B132
  refine Gl.go ?_ st132
  show Gl _ _ _ _ (T132.setTop (mkF m 9 #[.val (.ref a), .val (.ref ns), .unset] [(.ref b132), (.ref ls131), (.ref a)]))
  obtain ⟨_, _, ⟨T133, L133, k133, n133⟩, -, X133, ⟨Lc133, hQ133, l133, y133, z133⟩, st133⟩ := X132.specialBack hx (y := (⟨"com/example/grantline/grantline/engine/Actions", "<init>", "(Ljava/util/List;[I)V"⟩ : MethodName)) rfl hown (mvT hZ (hw _ (List.mem_of_getElem? (i := 71) rfl))) (mvT hZ (hw _ (List.mem_of_getElem? (i := 72) rfl))) (mvT hZ (hw _ (List.mem_of_getElem? (i := 73) rfl))) (by decide) (backOf (W := 0) (rm11 l Z a0 hw [] a ls131 b132  _ _ h132 n0 Z0 E_a g_a F_names_a F_implied_a ) hZ (hw _ (List.mem_of_getElem? (i := 73) rfl)) (hw _ (List.mem_of_getElem? (i := 19) rfl)) (by decide) (by decide)) (g := (mkF m 9 #[.val (.ref a), .val (.ref ns), .unset] [(.ref b132), (.ref ls131), (.ref a)])) rfl (by rw [hml]; rfl) (Steps.refl _) (a := a) (argsL := [(.ref ls131), (.ref b132)]) (rest := []) (lenOf pd_10 rfl) rfl (by show 2 * 0 + _ ≤ _; exact Nat.le_of_eq rfl) (hb hby d2_9) (fun _ _ => ⟨rfl, e132, (by decide : 2 + 0 ≤ _), (by decide : 3 + 0 ≤ _)⟩)
  dsimp only [Pt.U, Pt.locs, Pt.cells, Pt.slots] at X133 l133 y133 z133 st133 hQ133
  rw [l133, y133, z133] at X133
  clear l133 y133 z133
  obtain ⟨N133q, rfl, K133, ec133, f133_names, f133_implied⟩ := hQ133
  replace NF := Fr.app NF N133q
  replace KP := KP.trans K133 (fun y hy => Or.inl hy)
  replace LK131 := LK131.keep K133 (Or.inl ha0)
  replace HI := Nat.le_trans HI K133.1
  replace hNS := hNS.keep K133 (ninS hna nin0)
  replace V_b132 := V_b132.keep K133 (ninS (Ne.symm ne_a_b132) nin0)
  replace EI_b132 := EI_b132.keep K133
  replace Z0 := Nat.le_trans Z0 K133.1
  replace E_a := ec133
  replace F_names_a := f133_names
  replace F_implied_a := f133_implied
  refine Gl.tr ?_ st133
  show Gl _ _ _ _ (T133.setTop (mkF m 12 _ []))
  refine Gl.go ?_ (fun t k => XS.iconst X133.here hx rfl (hb hby d2_12) k)
  show Gl _ _ _ _ (T133.setTop (mkF m 13 #[.val (.ref a), .val (.ref ns), .unset] [(.int (0 : Int32))]))
  refine Gl.go ?_ (fun t k => XS.istoreN X133.here hx rfl (hb hby d2_13) rfl (l' := #[.val (.ref a), .val (.ref ns), .val (.int (0 : Int32))]) rfl k)
  show Gl _ _ _ _ (T133.setTop (mkF m 14 _ []))
  refine Gl.go ?_ (fun t k => XS.iloadN X133.here hx rfl (hb hby d2_14) rfl k)
  show Gl _ _ _ _ (T133.setTop (mkF m 15 _ [(.int (0 : Int32))]))
  refine Gl.go ?_ (fun t k => XS.aloadN X133.here hx rfl (hb hby d2_15) rfl rfl k)
  show Gl _ _ _ _ (T133.setTop (mkF m 16 #[.val (.ref a), .val (.ref ns), .val (.int (0 : Int32))] [(.ref ns), (.int (0 : Int32))]))
  refine Gl.go ?_ (RA.len hNS X133 hx hZ rfl (g := (mkF m 16 #[.val (.ref a), .val (.ref ns), .val (.int (0 : Int32))] [(.ref ns), (.int (0 : Int32))])) rfl rfl (hb hby d2_16))
  show Gl _ _ _ _ (T133.setTop (mkF m 17 _ [(.int (1 : Int32)), (.int (0 : Int32))]))
  refine Gl.go ?_ (fun t k => XS.icmpNo X133.here hx rfl (hb hby d2_17) rfl (tlt (by decide : (0 : Int32) < (1 : Int32))).2.1 k)
  show Gl _ _ _ _ (T133.setTop (mkF m 20 _ []))
  refine Gl.go ?_ (fun t k => XS.aloadN X133.here hx rfl (hb hby d2_20) rfl rfl k)
  show Gl _ _ _ _ (T133.setTop (mkF m 21 #[.val (.ref a), .val (.ref ns), .val (.int (0 : Int32))] [(.ref a)]))
  obtain ⟨T134, X134, e134, st134⟩ := getF X133 hx hZ hown (host := "") (Or.inl (hw _ (List.mem_of_getElem? (i := 77) rfl))) Via.refl rfl F_implied_a (g := (mkF m 21 #[.val (.ref a), .val (.ref ns), .val (.int (0 : Int32))] [(.ref a)])) rfl rfl (hb hby d2_21)
  refine Gl.go ?_ st134
  show Gl _ _ _ _ (T134.setTop (mkF m 24 _ [(.ref b132)]))
  refine Gl.go ?_ (fun t k => XS.iloadN X134.here hx rfl (hb hby d2_24) rfl k)
  show Gl _ _ _ _ (T134.setTop (mkF m 25 _ [(.int (0 : Int32)), (.ref b132)]))
  refine Gl.go ?_ (fun t k => XS.iconst X134.here hx rfl (hb hby d2_25) k)
  show Gl _ _ _ _ (T134.setTop (mkF m 26 _ [(.int (1 : Int32)), (.int (0 : Int32)), (.ref b132)]))
  refine Gl.go ?_ (fun t k => XS.iloadN X134.here hx rfl (hb hby d2_26) rfl k)
  show Gl _ _ _ _ (T134.setTop (mkF m 27 _ [(.int (0 : Int32)), (.int (1 : Int32)), (.int (0 : Int32)), (.ref b132)]))
  refine Gl.go ?_ (fun t k => XS.ishl X134.here hx rfl (hb hby d2_27) rfl k)
  show Gl _ _ _ _ (T134.setTop (mkF m 28 #[.val (.ref a), .val (.ref ns), .val (.int (0 : Int32))] [(.int ((1 : Int32) <<< ((0 : Int32) &&& 31))), (.int (0 : Int32)), (.ref b132)]))
  obtain ⟨cl135, Ar135, q135, S135, N135, Hh135, G135⟩ := V_b132
  obtain ⟨T135, h135, X135, e135, W135, st135⟩ := stI X134 hx hZ e134 Ar135 (j := (0 : Int32)) (inb_of S135 ⟨by decide, by decide⟩) (g := (mkF m 28 #[.val (.ref a), .val (.ref ns), .val (.int (0 : Int32))] [(.int ((1 : Int32) <<< ((0 : Int32) &&& 31))), (.int (0 : Int32)), (.ref b132)])) rfl rfl (hb hby d2_28)
  replace KP := KP.wr W135 (Or.inr sz_b132)
  replace LK131 := LK131.keep (Keep.of_wr W135) (Or.inr hi_b132)
  replace HI := Nat.le_trans HI (Keep.of_wr W135).1
  replace hNS := hNS.other W135 ne_ns_b132
  replace EI_b132 := EI_b132.wr W135
  replace E_a := E_a.wr W135
  replace F_names_a := F_names_a.other W135 (Or.inl ne_a_b132)
  replace F_implied_a := F_implied_a.other W135 (Or.inl ne_a_b132)
  replace Z0 := Nat.le_trans Z0 (Keep.of_wr W135).1
  have V_b132 : Arv Z h135 b132 k132 .int (1 : Int32) [(.int ((1 : Int32) <<< ((0 : Int32) &&& 31)))] (.int (0 : Int32)) := Arv.set Ar135 q135 S135 N135 Hh135 G135 rfl W135 0 rfl (Nat.le_of_ble_eq_true rfl)
  clear Hh135 G135 N135 S135 q135 W135
  clear Ar135
  clear cl135
  replace NF := Fr.snoc X135 NF g_b132
  refine Gl.go ?_ st135
  clear st135 X134 e134
  show Gl _ _ _ _ (T135.setTop (mkF m 29 #[.val (.ref a), .val (.ref ns), .val (.int (0 : Int32))] []))
  refine Gl.go ?_ (fun t k => XS.iinc X135.here hx rfl (hb hby d2_29) rfl (l' := #[.val (.ref a), .val (.ref ns), .val (.int (1 : Int32))]) rfl k)
  show Gl _ _ _ _ (T135.setTop (mkF m 32 _ []))
  refine Gl.go ?_ (fun t k => XS.goto X135.here hx rfl (pc0 := 32) (pc' := 14) rfl (hb hby d2_32) (by decide) (by decide) k)
  show Gl _ _ _ _ (T135.setTop (mkF m 14 _ []))
  refine Gl.go ?_ (fun t k => XS.iloadN X135.here hx rfl (hb hby d2_14) rfl k)
  show Gl _ _ _ _ (T135.setTop (mkF m 15 _ [(.int (1 : Int32))]))
  refine Gl.go ?_ (fun t k => XS.aloadN X135.here hx rfl (hb hby d2_15) rfl rfl k)
  show Gl _ _ _ _ (T135.setTop (mkF m 16 #[.val (.ref a), .val (.ref ns), .val (.int (1 : Int32))] [(.ref ns), (.int (1 : Int32))]))
  refine Gl.go ?_ (RA.len hNS X135 hx hZ e135 (g := (mkF m 16 #[.val (.ref a), .val (.ref ns), .val (.int (1 : Int32))] [(.ref ns), (.int (1 : Int32))])) rfl rfl (hb hby d2_16))
  show Gl _ _ _ _ (T135.setTop (mkF m 17 _ [(.int (1 : Int32)), (.int (1 : Int32))]))
  refine Gl.go ?_ (fun t k => XS.icmpYes X135.here hx rfl (pc0 := 17) (pc' := 35) rfl (hb hby d2_17) rfl (flt (by decide : ¬ ((1 : Int32) < (1 : Int32)))).2.1 (by decide) (by decide) k)
  show Gl _ _ _ _ (T135.setTop (mkF m 35 _ []))
  obtain ⟨fs, hr, hrun, hended, hW, hsame⟩ := X135.leave (v := none) (fun _ => rfl) (BodyLoose.notSynchronized Bd)
  exact Gl.mk ⟨_, _, X135.returnOut hx Bd.returns (hb hby d2_35) hr, hrun, hended, _, _, rfl, own_cast (P := fun H v L => QA1 Z a 1 A h0 n0 v H L) e135 ⟨NF, ⟨rfl, KP, E_a, _, b132, F_names_a, F_implied_a, LK131.lk, own_ia [((1 : Int32) <<< ((0 : Int32) &&& 31))] (own_bits 1) V_b132 EI_b132 (by decide) (by decide)⟩⟩, ⟨_, rfl⟩, hW, hsame.mono (by decide) (by decide)⟩
theorem ef_rm_ai1_2 (m : MethodId) (x0 : Addr) (x1 : Addr) : entryFrame m #[(.ref x0), (.ref x1)] 3 = mkF m 0 #[.val (.ref x0), .val (.ref x1), .unset] [] := by first | (simp [entryFrame, mkF, argsToLocals, Value.category]; done) | rfl
set_option maxRecDepth 65536 in
set_option maxHeartbeats 40000000 in
theorem rm_ai1_2 (l : Launch) (Z : State) (a0 : Array Value) (hw : ∀ d ∈ tables_1, d.before a0 Z = true) (ws : List Jvm.Cond) (a : Addr) (ns : Addr) (A : Nat → Addr) (em el : Addr) (u_names u_implied : Value) (h0 : Heap) (n0 : Nat) (Z0 : n0 ≤ h0.size) (E_a : Exa Z h0 a "com/example/grantline/grantline/engine/Actions") (g_a : n0 ≤ a) (F_names_a : Fld Z h0 a "com/example/grantline/grantline/engine/Actions" "names" "Ljava/util/List;" u_names) (F_implied_a : Fld Z h0 a "com/example/grantline/grantline/engine/Actions" "implied" "[I" u_implied) (hna : ns ≠ a) (hNS : RA Z h0 ns (.object "java/lang/String") (2 : Int32) A) (hE : ∀ i, i < 2 → Exa Z h0 (A i) "java/lang/String") (S_EM : Sta Z h0 "java/util/ImmutableCollections" "EMPTY" "Ljava/lang/Object;" (.ref em)) (S_EL : Sta Z h0 "java/util/ImmutableCollections" "EMPTY_LIST" "Ljava/util/ImmutableCollections$ListN;" (.ref el)) :
    MetFree l (⟨"com/example/grantline/grantline/engine/Actions", "<init>", "([Ljava/lang/String;)V"⟩ : MethodName) (head1 (Jvm.Cond.code (⟨"com/example/grantline/grantline/engine/Actions", "<init>", "([Ljava/lang/String;)V"⟩ : MethodName) prog_18_method_1_code 3 none :: ws) ({ frames := 7, cells := 3, slots := 12, locals := 91 } : Room)) (fun aQ U => aQ = #[(.ref a), (.ref ns)] ∧ Z.Warmed39 U.vm ∧ U.heap = h0) (fun _ _ _ _ _ => True) (fun _ U o U' => ∃ vQ LQ, o = .returned vQ ∧ QA1 Z a 2 A h0 n0 vQ U'.heap LQ ∧ FrameEnd U o U' LQ ({ frames := 7, cells := 3, slots := 12, locals := 91 } : Room).cells ({ frames := 7, cells := 3, slots := 12, locals := 91 } : Room).slots) := by
  refine MetFree.of_bodySF (plainFor_of_name pn_2) hisR ?_
  intro p e s m args below meth c s₁ Bd hml0 hP hK
  obtain ⟨rfl, hZ, hh⟩ := hP
  have hx := Bd.exec
  have hby := Bd.bytes
  have hml : c.maxLocals = 3 := hml0
  have hown : s.vm.findClass "com/example/grantline/grantline/engine/Actions" = some m.cls := findClass_of_methodNamed Bd.named
  have hnm := (name_of_methodNamed Bd.named Bd.method).1
  have X0 : Stand p l e ({ frames := 7, cells := 3, slots := 12, locals := 91 } : Room) s m #[(.ref a), (.ref ns)] below meth c s₁ [] 0 0 := Stand.of_body Bd
  have e0 : s₁.heap = h0 := by rw [← hh, Bd.state]; rfl
  have NF := Fr.nil n0
  have KP : Keep h0 h0 [a] := Keep.refl h0 [a]
  have ha0 := E_a.lt
  refine Gl.out ?_
  refine Gl.go ?_ (fun t k => castTop (ef_rm_ai1_2 m a ns) k)
  show Gl _ _ _ _ (s₁.setTop (mkF m 0 _ []))
  refine Gl.go ?_ (fun t k => XS.aloadN X0.here hx rfl (hb hby d2_0) rfl rfl k)
  show Gl _ _ _ _ (s₁.setTop (mkF m 1 _ [(.ref a)]))
  refine Gl.go ?_ (fun t k => XS.aloadN X0.here hx rfl (hb hby d2_1) rfl rfl k)
  show Gl _ _ _ _ (s₁.setTop (mkF m 2 #[.val (.ref a), .val (.ref ns), .unset] [(.ref ns), (.ref a)]))
  obtain ⟨_, _, ⟨T136, L136, k136, n136⟩, -, X136, ⟨Lc136, hQ136, l136, y136, z136⟩, st136⟩ := Jvm.LawKit.callS X0 hx (y := (⟨"java/util/List", "of", "([Ljava/lang/Object;)Ljava/util/List;"⟩ : MethodName)) hown (mvT hZ (hw _ (List.mem_of_getElem? (i := 23) rfl))) (mvT hZ (hw _ (List.mem_of_getElem? (i := 24) rfl))) (mvT hZ (hw _ (List.mem_of_getElem? (i := 25) rfl))) (mvT hZ (hw _ (List.mem_of_getElem? (i := 26) rfl))) (by decide) (backOf (W := 1) (rm_lof_2 l Z a0 hw [] ns A em el h0 n0 Z0 hNS hE S_EM S_EL) hZ (hw _ (List.mem_of_getElem? (i := 26) rfl)) (hw _ (List.mem_of_getElem? (i := 25) rfl)) (by decide) (by decide)) (g := (mkF m 2 #[.val (.ref a), .val (.ref ns), .unset] [(.ref ns), (.ref a)])) rfl (by rw [hml]; rfl) (argsL := [(.ref ns)]) (rest := [(.ref a)]) (lenOf pd_9 rfl) rfl (by show 2 * 0 + _ ≤ _; exact Nat.le_of_eq rfl) (hb hby d2_2) (fun _ _ => ⟨rfl, e0, (by decide : 0 + 1 ≤ _), (by decide : 0 + 2 ≤ _)⟩)
  dsimp only [Pt.U, Pt.locs, Pt.cells, Pt.slots] at X136 l136 y136 z136 st136 hQ136
  rw [l136, y136, z136] at X136
  clear l136 y136 z136
  obtain ⟨N136q, ls136, rfl, EX136, LK136⟩ := hQ136
  replace NF := Fr.app NF N136q
  replace KP := KP.ext EX136
  replace E_a := E_a.ext EX136
  replace hNS := hNS.ext EX136
  replace F_names_a := F_names_a.ext EX136
  replace F_implied_a := F_implied_a.ext EX136
  replace Z0 := Nat.le_trans Z0 EX136.1
  have HI := Nat.le_refl T136.heap.size
  refine Gl.go ?_ st136
  show Gl _ _ _ _ (T136.setTop (mkF m 5 _ [(.ref ls136), (.ref a)]))
  refine Gl.go ?_ (fun t k => XS.aloadN X136.here hx rfl (hb hby d2_5) rfl rfl k)
  show Gl _ _ _ _ (T136.setTop (mkF m 6 #[.val (.ref a), .val (.ref ns), .unset] [(.ref ns), (.ref ls136), (.ref a)]))
  refine Gl.go ?_ (RA.len hNS X136 hx hZ rfl (g := (mkF m 6 #[.val (.ref a), .val (.ref ns), .unset] [(.ref ns), (.ref ls136), (.ref a)])) rfl rfl (hb hby d2_6))
  show Gl _ _ _ _ (T136.setTop (mkF m 7 #[.val (.ref a), .val (.ref ns), .unset] [(.int (2 : Int32)), (.ref ls136), (.ref a)]))
  obtain ⟨T137, h137, k137, X137, e137, E137, A137, B137, st137⟩ := newPE X136 hx hZ (hw _ (List.mem_of_getElem? (i := 70) rfl)) rfl (g := (mkF m 7 #[.val (.ref a), .val (.ref ns), .unset] [(.int (2 : Int32)), (.ref ls136), (.ref a)])) rfl (hb hby d2_7) rfl (by decide) (cap := 2) (by decide) (by decide) (by decide) (by decide) (ad := "[I") (by decide)
  obtain ⟨b137, g137⟩ : ∃ z, z = T136.heap.size := ⟨_, rfl⟩
  rw [← g137] at A137 B137 st137
  have g_b137 : n0 ≤ b137 := Nat.le_trans Z0 (Nat.le_of_eq g137.symm)
  have ne_a_b137 : a ≠ b137 := Nat.ne_of_lt (Nat.lt_of_lt_of_le E_a.lt (Nat.le_of_eq g137.symm))
  have ne_ns_b137 : ns ≠ b137 := Nat.ne_of_lt (Nat.lt_of_lt_of_le hNS.lt (Nat.le_of_eq g137.symm))
  have sz_b137 : (h0).size ≤ b137 := Nat.le_trans KP.1 (Nat.le_of_eq g137.symm)
  have hi_b137 := Nat.le_trans HI (Nat.le_of_eq g137.symm)
  replace KP := KP.ext E137
  replace LK136 := LK136.ext E137
  replace HI := Nat.le_trans HI E137.1
  replace E_a := E_a.ext E137
  replace hNS := hNS.ext E137
  replace F_names_a := F_names_a.ext E137
  replace F_implied_a := F_implied_a.ext E137
  replace Z0 := Nat.le_trans Z0 E137.1
  have V_b137 : Arv Z h137 b137 k137 .int (2 : Int32) [(.int (0 : Int32)), (.int (0 : Int32))] (.int (0 : Int32)) := (Arv.new A137 (by decide)).pad (pad_rep [] (.int (0 : Int32)) 2)
  have EI_b137 := B137
  refine Gl.go ?_ st137
  show Gl _ _ _ _ (T137.setTop (mkF m 9 #[.val (.ref a), .val (.ref ns), .unset] [(.ref b137), (.ref ls136), (.ref a)]))
  obtain ⟨_, _, ⟨T138, L138, k138, n138⟩, -, X138, ⟨Lc138, hQ138, l138, y138, z138⟩, st138⟩ := X137.specialBack hx (y := (⟨"com/example/grantline/grantline/engine/Actions", "<init>", "(Ljava/util/List;[I)V"⟩ : MethodName)) rfl hown (mvT hZ (hw _ (List.mem_of_getElem? (i := 71) rfl))) (mvT hZ (hw _ (List.mem_of_getElem? (i := 72) rfl))) (mvT hZ (hw _ (List.mem_of_getElem? (i := 73) rfl))) (by decide) (backOf (W := 0) (rm11 l Z a0 hw [] a ls136 b137  _ _ h137 n0 Z0 E_a g_a F_names_a F_implied_a ) hZ (hw _ (List.mem_of_getElem? (i := 73) rfl)) (hw _ (List.mem_of_getElem? (i := 19) rfl)) (by decide) (by decide)) (g := (mkF m 9 #[.val (.ref a), .val (.ref ns), .unset] [(.ref b137), (.ref ls136), (.ref a)])) rfl (by rw [hml]; rfl) (Steps.refl _) (a := a) (argsL := [(.ref ls136), (.ref b137)]) (rest := []) (lenOf pd_10 rfl) rfl (by show 2 * 0 + _ ≤ _; exact Nat.le_of_eq rfl) (hb hby d2_9) (fun _ _ => ⟨rfl, e137, (by decide : 2 + 0 ≤ _), (by decide : 4 + 0 ≤ _)⟩)
  dsimp only [Pt.U, Pt.locs, Pt.cells, Pt.slots] at X138 l138 y138 z138 st138 hQ138
  rw [l138, y138, z138] at X138
  clear l138 y138 z138
  obtain ⟨N138q, rfl, K138, ec138, f138_names, f138_implied⟩ := hQ138
  replace NF := Fr.app NF N138q
  replace KP := KP.trans K138 (fun y hy => Or.inl hy)
  replace LK136 := LK136.keep K138 (Or.inl ha0)
  replace HI := Nat.le_trans HI K138.1
  replace hNS := hNS.keep K138 (ninS hna nin0)
  replace V_b137 := V_b137.keep K138 (ninS (Ne.symm ne_a_b137) nin0)
  replace EI_b137 := EI_b137.keep K138
  replace Z0 := Nat.le_trans Z0 K138.1
  replace E_a := ec138
  replace F_names_a := f138_names
  replace F_implied_a := f138_implied
  refine Gl.tr ?_ st138
  show Gl _ _ _ _ (T138.setTop (mkF m 12 _ []))
  refine Gl.go ?_ (fun t k => XS.iconst X138.here hx rfl (hb hby d2_12) k)
  show Gl _ _ _ _ (T138.setTop (mkF m 13 #[.val (.ref a), .val (.ref ns), .unset] [(.int (0 : Int32))]))
  refine Gl.go ?_ (fun t k => XS.istoreN X138.here hx rfl (hb hby d2_13) rfl (l' := #[.val (.ref a), .val (.ref ns), .val (.int (0 : Int32))]) rfl k)
  show Gl _ _ _ _ (T138.setTop (mkF m 14 _ []))
  refine Gl.go ?_ (fun t k => XS.iloadN X138.here hx rfl (hb hby d2_14) rfl k)
  show Gl _ _ _ _ (T138.setTop (mkF m 15 _ [(.int (0 : Int32))]))
  refine Gl.go ?_ (fun t k => XS.aloadN X138.here hx rfl (hb hby d2_15) rfl rfl k)
  show Gl _ _ _ _ (T138.setTop (mkF m 16 #[.val (.ref a), .val (.ref ns), .val (.int (0 : Int32))] [(.ref ns), (.int (0 : Int32))]))
  refine Gl.go ?_ (RA.len hNS X138 hx hZ rfl (g := (mkF m 16 #[.val (.ref a), .val (.ref ns), .val (.int (0 : Int32))] [(.ref ns), (.int (0 : Int32))])) rfl rfl (hb hby d2_16))
  show Gl _ _ _ _ (T138.setTop (mkF m 17 _ [(.int (2 : Int32)), (.int (0 : Int32))]))
  refine Gl.go ?_ (fun t k => XS.icmpNo X138.here hx rfl (hb hby d2_17) rfl (tlt (by decide : (0 : Int32) < (2 : Int32))).2.1 k)
  show Gl _ _ _ _ (T138.setTop (mkF m 20 _ []))
  refine Gl.go ?_ (fun t k => XS.aloadN X138.here hx rfl (hb hby d2_20) rfl rfl k)
  show Gl _ _ _ _ (T138.setTop (mkF m 21 #[.val (.ref a), .val (.ref ns), .val (.int (0 : Int32))] [(.ref a)]))
  obtain ⟨T139, X139, e139, st139⟩ := getF X138 hx hZ hown (host := "") (Or.inl (hw _ (List.mem_of_getElem? (i := 77) rfl))) Via.refl rfl F_implied_a (g := (mkF m 21 #[.val (.ref a), .val (.ref ns), .val (.int (0 : Int32))] [(.ref a)])) rfl rfl (hb hby d2_21)
  refine Gl.go ?_ st139
  show Gl _ _ _ _ (T139.setTop (mkF m 24 _ [(.ref b137)]))
  refine Gl.go ?_ (fun t k => XS.iloadN X139.here hx rfl (hb hby d2_24) rfl k)
  show Gl _ _ _ _ (T139.setTop (mkF m 25 _ [(.int (0 : Int32)), (.ref b137)]))
  refine Gl.go ?_ (fun t k => XS.iconst X139.here hx rfl (hb hby d2_25) k)
  show Gl _ _ _ _ (T139.setTop (mkF m 26 _ [(.int (1 : Int32)), (.int (0 : Int32)), (.ref b137)]))
  refine Gl.go ?_ (fun t k => XS.iloadN X139.here hx rfl (hb hby d2_26) rfl k)
  show Gl _ _ _ _ (T139.setTop (mkF m 27 _ [(.int (0 : Int32)), (.int (1 : Int32)), (.int (0 : Int32)), (.ref b137)]))
  refine Gl.go ?_ (fun t k => XS.ishl X139.here hx rfl (hb hby d2_27) rfl k)
  show Gl _ _ _ _ (T139.setTop (mkF m 28 #[.val (.ref a), .val (.ref ns), .val (.int (0 : Int32))] [(.int ((1 : Int32) <<< ((0 : Int32) &&& 31))), (.int (0 : Int32)), (.ref b137)]))
  obtain ⟨cl140, Ar140, q140, S140, N140, Hh140, G140⟩ := V_b137
  obtain ⟨T140, h140, X140, e140, W140, st140⟩ := stI X139 hx hZ e139 Ar140 (j := (0 : Int32)) (inb_of S140 ⟨by decide, by decide⟩) (g := (mkF m 28 #[.val (.ref a), .val (.ref ns), .val (.int (0 : Int32))] [(.int ((1 : Int32) <<< ((0 : Int32) &&& 31))), (.int (0 : Int32)), (.ref b137)])) rfl rfl (hb hby d2_28)
  replace KP := KP.wr W140 (Or.inr sz_b137)
  replace LK136 := LK136.keep (Keep.of_wr W140) (Or.inr hi_b137)
  replace HI := Nat.le_trans HI (Keep.of_wr W140).1
  replace hNS := hNS.other W140 ne_ns_b137
  replace EI_b137 := EI_b137.wr W140
  replace E_a := E_a.wr W140
  replace F_names_a := F_names_a.other W140 (Or.inl ne_a_b137)
  replace F_implied_a := F_implied_a.other W140 (Or.inl ne_a_b137)
  replace Z0 := Nat.le_trans Z0 (Keep.of_wr W140).1
  have V_b137 : Arv Z h140 b137 k137 .int (2 : Int32) [(.int ((1 : Int32) <<< ((0 : Int32) &&& 31))), (.int (0 : Int32))] (.int (0 : Int32)) := Arv.set Ar140 q140 S140 N140 Hh140 G140 rfl W140 0 rfl (Nat.le_of_ble_eq_true rfl)
  clear Hh140 G140 N140 S140 q140 W140
  clear Ar140
  clear cl140
  replace NF := Fr.snoc X140 NF g_b137
  refine Gl.go ?_ st140
  clear st140 X139 e139
  show Gl _ _ _ _ (T140.setTop (mkF m 29 #[.val (.ref a), .val (.ref ns), .val (.int (0 : Int32))] []))
  refine Gl.go ?_ (fun t k => XS.iinc X140.here hx rfl (hb hby d2_29) rfl (l' := #[.val (.ref a), .val (.ref ns), .val (.int (1 : Int32))]) rfl k)
  show Gl _ _ _ _ (T140.setTop (mkF m 32 _ []))
  refine Gl.go ?_ (fun t k => XS.goto X140.here hx rfl (pc0 := 32) (pc' := 14) rfl (hb hby d2_32) (by decide) (by decide) k)
  show Gl _ _ _ _ (T140.setTop (mkF m 14 _ []))
  refine Gl.go ?_ (fun t k => XS.iloadN X140.here hx rfl (hb hby d2_14) rfl k)
  show Gl _ _ _ _ (T140.setTop (mkF m 15 _ [(.int (1 : Int32))]))
  refine Gl.go ?_ (fun t k => XS.aloadN X140.here hx rfl (hb hby d2_15) rfl rfl k)
  show Gl _ _ _ _ (T140.setTop (mkF m 16 #[.val (.ref a), .val (.ref ns), .val (.int (1 : Int32))] [(.ref ns), (.int (1 : Int32))]))
  refine Gl.go ?_ (RA.len hNS X140 hx hZ e140 (g := (mkF m 16 #[.val (.ref a), .val (.ref ns), .val (.int (1 : Int32))] [(.ref ns), (.int (1 : Int32))])) rfl rfl (hb hby d2_16))
  show Gl _ _ _ _ (T140.setTop (mkF m 17 _ [(.int (2 : Int32)), (.int (1 : Int32))]))
  refine Gl.go ?_ (fun t k => XS.icmpNo X140.here hx rfl (hb hby d2_17) rfl (tlt (by decide : (1 : Int32) < (2 : Int32))).2.1 k)
  show Gl _ _ _ _ (T140.setTop (mkF m 20 _ []))
  refine Gl.go ?_ (fun t k => XS.aloadN X140.here hx rfl (hb hby d2_20) rfl rfl k)
  show Gl _ _ _ _ (T140.setTop (mkF m 21 #[.val (.ref a), .val (.ref ns), .val (.int (1 : Int32))] [(.ref a)]))
  obtain ⟨T141, X141, e141, st141⟩ := getF X140 hx hZ hown (host := "") (Or.inl (hw _ (List.mem_of_getElem? (i := 77) rfl))) Via.refl e140 F_implied_a (g := (mkF m 21 #[.val (.ref a), .val (.ref ns), .val (.int (1 : Int32))] [(.ref a)])) rfl rfl (hb hby d2_21)
  refine Gl.go ?_ st141
  show Gl _ _ _ _ (T141.setTop (mkF m 24 _ [(.ref b137)]))
  refine Gl.go ?_ (fun t k => XS.iloadN X141.here hx rfl (hb hby d2_24) rfl k)
  show Gl _ _ _ _ (T141.setTop (mkF m 25 _ [(.int (1 : Int32)), (.ref b137)]))
  refine Gl.go ?_ (fun t k => XS.iconst X141.here hx rfl (hb hby d2_25) k)
  show Gl _ _ _ _ (T141.setTop (mkF m 26 _ [(.int (1 : Int32)), (.int (1 : Int32)), (.ref b137)]))
  refine Gl.go ?_ (fun t k => XS.iloadN X141.here hx rfl (hb hby d2_26) rfl k)
  show Gl _ _ _ _ (T141.setTop (mkF m 27 _ [(.int (1 : Int32)), (.int (1 : Int32)), (.int (1 : Int32)), (.ref b137)]))
  refine Gl.go ?_ (fun t k => XS.ishl X141.here hx rfl (hb hby d2_27) rfl k)
  show Gl _ _ _ _ (T141.setTop (mkF m 28 #[.val (.ref a), .val (.ref ns), .val (.int (1 : Int32))] [(.int ((1 : Int32) <<< ((1 : Int32) &&& 31))), (.int (1 : Int32)), (.ref b137)]))
  obtain ⟨cl142, Ar142, q142, S142, N142, Hh142, G142⟩ := V_b137
  obtain ⟨T142, h142, X142, e142, W142, st142⟩ := stI X141 hx hZ e141 Ar142 (j := (1 : Int32)) (inb_of S142 ⟨by decide, by decide⟩) (g := (mkF m 28 #[.val (.ref a), .val (.ref ns), .val (.int (1 : Int32))] [(.int ((1 : Int32) <<< ((1 : Int32) &&& 31))), (.int (1 : Int32)), (.ref b137)])) rfl rfl (hb hby d2_28)
  replace KP := KP.wr W142 (Or.inr sz_b137)
  replace LK136 := LK136.keep (Keep.of_wr W142) (Or.inr hi_b137)
  replace HI := Nat.le_trans HI (Keep.of_wr W142).1
  replace hNS := hNS.other W142 ne_ns_b137
  replace EI_b137 := EI_b137.wr W142
  replace E_a := E_a.wr W142
  replace F_names_a := F_names_a.other W142 (Or.inl ne_a_b137)
  replace F_implied_a := F_implied_a.other W142 (Or.inl ne_a_b137)
  replace Z0 := Nat.le_trans Z0 (Keep.of_wr W142).1
  have V_b137 : Arv Z h142 b137 k137 .int (2 : Int32) [(.int ((1 : Int32) <<< ((0 : Int32) &&& 31))), (.int ((1 : Int32) <<< ((1 : Int32) &&& 31)))] (.int (0 : Int32)) := Arv.set Ar142 q142 S142 N142 Hh142 G142 rfl W142 1 rfl (Nat.le_of_ble_eq_true rfl)
  clear Hh142 G142 N142 S142 q142 W142
  clear Ar142
  clear cl142
  replace NF := Fr.snoc X142 NF g_b137
  refine Gl.go ?_ st142
  clear st142 X141 e141
  show Gl _ _ _ _ (T142.setTop (mkF m 29 #[.val (.ref a), .val (.ref ns), .val (.int (1 : Int32))] []))
  refine Gl.go ?_ (fun t k => XS.iinc X142.here hx rfl (hb hby d2_29) rfl (l' := #[.val (.ref a), .val (.ref ns), .val (.int (2 : Int32))]) rfl k)
  show Gl _ _ _ _ (T142.setTop (mkF m 32 _ []))
  refine Gl.go ?_ (fun t k => XS.goto X142.here hx rfl (pc0 := 32) (pc' := 14) rfl (hb hby d2_32) (by decide) (by decide) k)
  show Gl _ _ _ _ (T142.setTop (mkF m 14 _ []))
  refine Gl.go ?_ (fun t k => XS.iloadN X142.here hx rfl (hb hby d2_14) rfl k)
  show Gl _ _ _ _ (T142.setTop (mkF m 15 _ [(.int (2 : Int32))]))
  refine Gl.go ?_ (fun t k => XS.aloadN X142.here hx rfl (hb hby d2_15) rfl rfl k)
  show Gl _ _ _ _ (T142.setTop (mkF m 16 #[.val (.ref a), .val (.ref ns), .val (.int (2 : Int32))] [(.ref ns), (.int (2 : Int32))]))
  refine Gl.go ?_ (RA.len hNS X142 hx hZ e142 (g := (mkF m 16 #[.val (.ref a), .val (.ref ns), .val (.int (2 : Int32))] [(.ref ns), (.int (2 : Int32))])) rfl rfl (hb hby d2_16))
  show Gl _ _ _ _ (T142.setTop (mkF m 17 _ [(.int (2 : Int32)), (.int (2 : Int32))]))
  refine Gl.go ?_ (fun t k => XS.icmpYes X142.here hx rfl (pc0 := 17) (pc' := 35) rfl (hb hby d2_17) rfl (flt (by decide : ¬ ((2 : Int32) < (2 : Int32)))).2.1 (by decide) (by decide) k)
  show Gl _ _ _ _ (T142.setTop (mkF m 35 _ []))
  obtain ⟨fs, hr, hrun, hended, hW, hsame⟩ := X142.leave (v := none) (fun _ => rfl) (BodyLoose.notSynchronized Bd)
  exact Gl.mk ⟨_, _, X142.returnOut hx Bd.returns (hb hby d2_35) hr, hrun, hended, _, _, rfl, own_cast (P := fun H v L => QA1 Z a 2 A h0 n0 v H L) e142 ⟨NF, ⟨rfl, KP, E_a, _, b137, F_names_a, F_implied_a, LK136.lk, own_ia [((1 : Int32) <<< ((0 : Int32) &&& 31)), ((1 : Int32) <<< ((1 : Int32) &&& 31))] (own_bits 2) V_b137 EI_b137 (by decide) (by decide)⟩⟩, ⟨_, rfl⟩, hW, hsame.mono (by decide) (by decide)⟩
theorem ef_rm_ai1_3 (m : MethodId) (x0 : Addr) (x1 : Addr) : entryFrame m #[(.ref x0), (.ref x1)] 3 = mkF m 0 #[.val (.ref x0), .val (.ref x1), .unset] [] := by first | (simp [entryFrame, mkF, argsToLocals, Value.category]; done) | rfl
set_option maxRecDepth 65536 in
set_option maxHeartbeats 40000000 in
theorem rm_ai1_3 (l : Launch) (Z : State) (a0 : Array Value) (hw : ∀ d ∈ tables_1, d.before a0 Z = true) (ws : List Jvm.Cond) (a : Addr) (ns : Addr) (A : Nat → Addr) (em el : Addr) (u_names u_implied : Value) (h0 : Heap) (n0 : Nat) (Z0 : n0 ≤ h0.size) (E_a : Exa Z h0 a "com/example/grantline/grantline/engine/Actions") (g_a : n0 ≤ a) (F_names_a : Fld Z h0 a "com/example/grantline/grantline/engine/Actions" "names" "Ljava/util/List;" u_names) (F_implied_a : Fld Z h0 a "com/example/grantline/grantline/engine/Actions" "implied" "[I" u_implied) (hna : ns ≠ a) (hNS : RA Z h0 ns (.object "java/lang/String") (3 : Int32) A) (hE : ∀ i, i < 3 → Exa Z h0 (A i) "java/lang/String") (S_EM : Sta Z h0 "java/util/ImmutableCollections" "EMPTY" "Ljava/lang/Object;" (.ref em)) (S_EL : Sta Z h0 "java/util/ImmutableCollections" "EMPTY_LIST" "Ljava/util/ImmutableCollections$ListN;" (.ref el)) :
    MetFree l (⟨"com/example/grantline/grantline/engine/Actions", "<init>", "([Ljava/lang/String;)V"⟩ : MethodName) (head1 (Jvm.Cond.code (⟨"com/example/grantline/grantline/engine/Actions", "<init>", "([Ljava/lang/String;)V"⟩ : MethodName) prog_18_method_1_code 3 none :: ws) ({ frames := 7, cells := 3, slots := 12, locals := 91 } : Room)) (fun aQ U => aQ = #[(.ref a), (.ref ns)] ∧ Z.Warmed39 U.vm ∧ U.heap = h0) (fun _ _ _ _ _ => True) (fun _ U o U' => ∃ vQ LQ, o = .returned vQ ∧ QA1 Z a 3 A h0 n0 vQ U'.heap LQ ∧ FrameEnd U o U' LQ ({ frames := 7, cells := 3, slots := 12, locals := 91 } : Room).cells ({ frames := 7, cells := 3, slots := 12, locals := 91 } : Room).slots) := by
  refine MetFree.of_bodySF (plainFor_of_name pn_2) hisR ?_
  intro p e s m args below meth c s₁ Bd hml0 hP hK
  obtain ⟨rfl, hZ, hh⟩ := hP
  have hx := Bd.exec
  have hby := Bd.bytes
  have hml : c.maxLocals = 3 := hml0
  have hown : s.vm.findClass "com/example/grantline/grantline/engine/Actions" = some m.cls := findClass_of_methodNamed Bd.named
  have hnm := (name_of_methodNamed Bd.named Bd.method).1
  have X0 : Stand p l e ({ frames := 7, cells := 3, slots := 12, locals := 91 } : Room) s m #[(.ref a), (.ref ns)] below meth c s₁ [] 0 0 := Stand.of_body Bd
  have e0 : s₁.heap = h0 := by rw [← hh, Bd.state]; rfl
  have NF := Fr.nil n0
  have KP : Keep h0 h0 [a] := Keep.refl h0 [a]
  have ha0 := E_a.lt
  refine Gl.out ?_
  refine Gl.go ?_ (fun t k => castTop (ef_rm_ai1_3 m a ns) k)
  show Gl _ _ _ _ (s₁.setTop (mkF m 0 _ []))
  refine Gl.go ?_ (fun t k => XS.aloadN X0.here hx rfl (hb hby d2_0) rfl rfl k)
  show Gl _ _ _ _ (s₁.setTop (mkF m 1 _ [(.ref a)]))
  refine Gl.go ?_ (fun t k => XS.aloadN X0.here hx rfl (hb hby d2_1) rfl rfl k)
  show Gl _ _ _ _ (s₁.setTop (mkF m 2 #[.val (.ref a), .val (.ref ns), .unset] [(.ref ns), (.ref a)]))
  obtain ⟨_, _, ⟨T143, L143, k143, n143⟩, -, X143, ⟨Lc143, hQ143, l143, y143, z143⟩, st143⟩ := Jvm.LawKit.callS X0 hx (y := (⟨"java/util/List", "of", "([Ljava/lang/Object;)Ljava/util/List;"⟩ : MethodName)) hown (mvT hZ (hw _ (List.mem_of_getElem? (i := 23) rfl))) (mvT hZ (hw _ (List.mem_of_getElem? (i := 24) rfl))) (mvT hZ (hw _ (List.mem_of_getElem? (i := 25) rfl))) (mvT hZ (hw _ (List.mem_of_getElem? (i := 26) rfl))) (by decide) (backOf (W := 1) (rm_lof_3 l Z a0 hw [] ns A em el h0 n0 Z0 hNS hE S_EM S_EL) hZ (hw _ (List.mem_of_getElem? (i := 26) rfl)) (hw _ (List.mem_of_getElem? (i := 25) rfl)) (by decide) (by decide)) (g := (mkF m 2 #[.val (.ref a), .val (.ref ns), .unset] [(.ref ns), (.ref a)])) rfl (by rw [hml]; rfl) (argsL := [(.ref ns)]) (rest := [(.ref a)]) (lenOf pd_9 rfl) rfl (by show 2 * 0 + _ ≤ _; exact Nat.le_of_eq rfl) (hb hby d2_2) (fun _ _ => ⟨rfl, e0, (by decide : 0 + 2 ≤ _), (by decide : 0 + 5 ≤ _)⟩)
  dsimp only [Pt.U, Pt.locs, Pt.cells, Pt.slots] at X143 l143 y143 z143 st143 hQ143
  rw [l143, y143, z143] at X143
  clear l143 y143 z143
  obtain ⟨N143q, ls143, rfl, EX143, LK143⟩ := hQ143
  replace NF := Fr.app NF N143q
  replace KP := KP.ext EX143
  replace E_a := E_a.ext EX143
  replace hNS := hNS.ext EX143
  replace F_names_a := F_names_a.ext EX143
  replace F_implied_a := F_implied_a.ext EX143
  replace Z0 := Nat.le_trans Z0 EX143.1
  have HI := Nat.le_refl T143.heap.size
  refine Gl.go ?_ st143
  show Gl _ _ _ _ (T143.setTop (mkF m 5 _ [(.ref ls143), (.ref a)]))
  refine Gl.go ?_ (fun t k => XS.aloadN X143.here hx rfl (hb hby d2_5) rfl rfl k)
  show Gl _ _ _ _ (T143.setTop (mkF m 6 #[.val (.ref a), .val (.ref ns), .unset] [(.ref ns), (.ref ls143), (.ref a)]))
  refine Gl.go ?_ (RA.len hNS X143 hx hZ rfl (g := (mkF m 6 #[.val (.ref a), .val (.ref ns), .unset] [(.ref ns), (.ref ls143), (.ref a)])) rfl rfl (hb hby d2_6))
  show Gl _ _ _ _ (T143.setTop (mkF m 7 #[.val (.ref a), .val (.ref ns), .unset] [(.int (3 : Int32)), (.ref ls143), (.ref a)]))
  obtain ⟨T144, h144, k144, X144, e144, E144, A144, B144, st144⟩ := newPE X143 hx hZ (hw _ (List.mem_of_getElem? (i := 70) rfl)) rfl (g := (mkF m 7 #[.val (.ref a), .val (.ref ns), .unset] [(.int (3 : Int32)), (.ref ls143), (.ref a)])) rfl (hb hby d2_7) rfl (by decide) (cap := 3) (by decide) (by decide) (by decide) (by decide) (ad := "[I") (by decide)
  obtain ⟨b144, g144⟩ : ∃ z, z = T143.heap.size := ⟨_, rfl⟩
  rw [← g144] at A144 B144 st144
  have g_b144 : n0 ≤ b144 := Nat.le_trans Z0 (Nat.le_of_eq g144.symm)
  have ne_a_b144 : a ≠ b144 := Nat.ne_of_lt (Nat.lt_of_lt_of_le E_a.lt (Nat.le_of_eq g144.symm))
  have ne_ns_b144 : ns ≠ b144 := Nat.ne_of_lt (Nat.lt_of_lt_of_le hNS.lt (Nat.le_of_eq g144.symm))
  have sz_b144 : (h0).size ≤ b144 := Nat.le_trans KP.1 (Nat.le_of_eq g144.symm)
  have hi_b144 := Nat.le_trans HI (Nat.le_of_eq g144.symm)
  replace KP := KP.ext E144
  replace LK143 := LK143.ext E144
  replace HI := Nat.le_trans HI E144.1
  replace E_a := E_a.ext E144
  replace hNS := hNS.ext E144
  replace F_names_a := F_names_a.ext E144
  replace F_implied_a := F_implied_a.ext E144
  replace Z0 := Nat.le_trans Z0 E144.1
  have V_b144 : Arv Z h144 b144 k144 .int (3 : Int32) [(.int (0 : Int32)), (.int (0 : Int32)), (.int (0 : Int32))] (.int (0 : Int32)) := (Arv.new A144 (by decide)).pad (pad_rep [] (.int (0 : Int32)) 3)
  have EI_b144 := B144
  refine Gl.go ?_ st144
  show Gl _ _ _ _ (T144.setTop (mkF m 9 #[.val (.ref a), .val (.ref ns), .unset] [(.ref b144), (.ref ls143), (.ref a)]))
  obtain ⟨_, _, ⟨T145, L145, k145, n145⟩, -, X145, ⟨Lc145, hQ145, l145, y145, z145⟩, st145⟩ := X144.specialBack hx (y := (⟨"com/example/grantline/grantline/engine/Actions", "<init>", "(Ljava/util/List;[I)V"⟩ : MethodName)) rfl hown (mvT hZ (hw _ (List.mem_of_getElem? (i := 71) rfl))) (mvT hZ (hw _ (List.mem_of_getElem? (i := 72) rfl))) (mvT hZ (hw _ (List.mem_of_getElem? (i := 73) rfl))) (by decide) (backOf (W := 0) (rm11 l Z a0 hw [] a ls143 b144  _ _ h144 n0 Z0 E_a g_a F_names_a F_implied_a ) hZ (hw _ (List.mem_of_getElem? (i := 73) rfl)) (hw _ (List.mem_of_getElem? (i := 19) rfl)) (by decide) (by decide)) (g := (mkF m 9 #[.val (.ref a), .val (.ref ns), .unset] [(.ref b144), (.ref ls143), (.ref a)])) rfl (by rw [hml]; rfl) (Steps.refl _) (a := a) (argsL := [(.ref ls143), (.ref b144)]) (rest := []) (lenOf pd_10 rfl) rfl (by show 2 * 0 + _ ≤ _; exact Nat.le_of_eq rfl) (hb hby d2_9) (fun _ _ => ⟨rfl, e144, (by decide : 3 + 0 ≤ _), (by decide : 8 + 0 ≤ _)⟩)
  dsimp only [Pt.U, Pt.locs, Pt.cells, Pt.slots] at X145 l145 y145 z145 st145 hQ145
  rw [l145, y145, z145] at X145
  clear l145 y145 z145
  obtain ⟨N145q, rfl, K145, ec145, f145_names, f145_implied⟩ := hQ145
  replace NF := Fr.app NF N145q
  replace KP := KP.trans K145 (fun y hy => Or.inl hy)
  replace LK143 := LK143.keep K145 (Or.inl ha0)
  replace HI := Nat.le_trans HI K145.1
  replace hNS := hNS.keep K145 (ninS hna nin0)
  replace V_b144 := V_b144.keep K145 (ninS (Ne.symm ne_a_b144) nin0)
  replace EI_b144 := EI_b144.keep K145
  replace Z0 := Nat.le_trans Z0 K145.1
  replace E_a := ec145
  replace F_names_a := f145_names
  replace F_implied_a := f145_implied
  refine Gl.tr ?_ st145
  show Gl _ _ _ _ (T145.setTop (mkF m 12 _ []))
  refine Gl.go ?_ (fun t k => XS.iconst X145.here hx rfl (hb hby d2_12) k)
  show Gl _ _ _ _ (T145.setTop (mkF m 13 #[.val (.ref a), .val (.ref ns), .unset] [(.int (0 : Int32))]))
  refine Gl.go ?_ (fun t k => XS.istoreN X145.here hx rfl (hb hby d2_13) rfl (l' := #[.val (.ref a), .val (.ref ns), .val (.int (0 : Int32))]) rfl k)
  show Gl _ _ _ _ (T145.setTop (mkF m 14 _ []))
  refine Gl.go ?_ (fun t k => XS.iloadN X145.here hx rfl (hb hby d2_14) rfl k)
  show Gl _ _ _ _ (T145.setTop (mkF m 15 _ [(.int (0 : Int32))]))
  refine Gl.go ?_ (fun t k => XS.aloadN X145.here hx rfl (hb hby d2_15) rfl rfl k)
  show Gl _ _ _ _ (T145.setTop (mkF m 16 #[.val (.ref a), .val (.ref ns), .val (.int (0 : Int32))] [(.ref ns), (.int (0 : Int32))]))
  refine Gl.go ?_ (RA.len hNS X145 hx hZ rfl (g := (mkF m 16 #[.val (.ref a), .val (.ref ns), .val (.int (0 : Int32))] [(.ref ns), (.int (0 : Int32))])) rfl rfl (hb hby d2_16))
  show Gl _ _ _ _ (T145.setTop (mkF m 17 _ [(.int (3 : Int32)), (.int (0 : Int32))]))
  refine Gl.go ?_ (fun t k => XS.icmpNo X145.here hx rfl (hb hby d2_17) rfl (tlt (by decide : (0 : Int32) < (3 : Int32))).2.1 k)
  show Gl _ _ _ _ (T145.setTop (mkF m 20 _ []))
  refine Gl.go ?_ (fun t k => XS.aloadN X145.here hx rfl (hb hby d2_20) rfl rfl k)
  show Gl _ _ _ _ (T145.setTop (mkF m 21 #[.val (.ref a), .val (.ref ns), .val (.int (0 : Int32))] [(.ref a)]))
  obtain ⟨T146, X146, e146, st146⟩ := getF X145 hx hZ hown (host := "") (Or.inl (hw _ (List.mem_of_getElem? (i := 77) rfl))) Via.refl rfl F_implied_a (g := (mkF m 21 #[.val (.ref a), .val (.ref ns), .val (.int (0 : Int32))] [(.ref a)])) rfl rfl (hb hby d2_21)
  refine Gl.go ?_ st146
  show Gl _ _ _ _ (T146.setTop (mkF m 24 _ [(.ref b144)]))
  refine Gl.go ?_ (fun t k => XS.iloadN X146.here hx rfl (hb hby d2_24) rfl k)
  show Gl _ _ _ _ (T146.setTop (mkF m 25 _ [(.int (0 : Int32)), (.ref b144)]))
  refine Gl.go ?_ (fun t k => XS.iconst X146.here hx rfl (hb hby d2_25) k)
  show Gl _ _ _ _ (T146.setTop (mkF m 26 _ [(.int (1 : Int32)), (.int (0 : Int32)), (.ref b144)]))
  refine Gl.go ?_ (fun t k => XS.iloadN X146.here hx rfl (hb hby d2_26) rfl k)
  show Gl _ _ _ _ (T146.setTop (mkF m 27 _ [(.int (0 : Int32)), (.int (1 : Int32)), (.int (0 : Int32)), (.ref b144)]))
  refine Gl.go ?_ (fun t k => XS.ishl X146.here hx rfl (hb hby d2_27) rfl k)
  show Gl _ _ _ _ (T146.setTop (mkF m 28 #[.val (.ref a), .val (.ref ns), .val (.int (0 : Int32))] [(.int ((1 : Int32) <<< ((0 : Int32) &&& 31))), (.int (0 : Int32)), (.ref b144)]))
  obtain ⟨cl147, Ar147, q147, S147, N147, Hh147, G147⟩ := V_b144
  obtain ⟨T147, h147, X147, e147, W147, st147⟩ := stI X146 hx hZ e146 Ar147 (j := (0 : Int32)) (inb_of S147 ⟨by decide, by decide⟩) (g := (mkF m 28 #[.val (.ref a), .val (.ref ns), .val (.int (0 : Int32))] [(.int ((1 : Int32) <<< ((0 : Int32) &&& 31))), (.int (0 : Int32)), (.ref b144)])) rfl rfl (hb hby d2_28)
  replace KP := KP.wr W147 (Or.inr sz_b144)
  replace LK143 := LK143.keep (Keep.of_wr W147) (Or.inr hi_b144)
  replace HI := Nat.le_trans HI (Keep.of_wr W147).1
  replace hNS := hNS.other W147 ne_ns_b144
  replace EI_b144 := EI_b144.wr W147
  replace E_a := E_a.wr W147
  replace F_names_a := F_names_a.other W147 (Or.inl ne_a_b144)
  replace F_implied_a := F_implied_a.other W147 (Or.inl ne_a_b144)
  replace Z0 := Nat.le_trans Z0 (Keep.of_wr W147).1
  have V_b144 : Arv Z h147 b144 k144 .int (3 : Int32) [(.int ((1 : Int32) <<< ((0 : Int32) &&& 31))), (.int (0 : Int32)), (.int (0 : Int32))] (.int (0 : Int32)) := Arv.set Ar147 q147 S147 N147 Hh147 G147 rfl W147 0 rfl (Nat.le_of_ble_eq_true rfl)
  clear Hh147 G147 N147 S147 q147 W147
  clear Ar147
  clear cl147
  replace NF := Fr.snoc X147 NF g_b144
  refine Gl.go ?_ st147
  clear st147 X146 e146
  show Gl _ _ _ _ (T147.setTop (mkF m 29 #[.val (.ref a), .val (.ref ns), .val (.int (0 : Int32))] []))
  refine Gl.go ?_ (fun t k => XS.iinc X147.here hx rfl (hb hby d2_29) rfl (l' := #[.val (.ref a), .val (.ref ns), .val (.int (1 : Int32))]) rfl k)
  show Gl _ _ _ _ (T147.setTop (mkF m 32 _ []))
  refine Gl.go ?_ (fun t k => XS.goto X147.here hx rfl (pc0 := 32) (pc' := 14) rfl (hb hby d2_32) (by decide) (by decide) k)
  show Gl _ _ _ _ (T147.setTop (mkF m 14 _ []))
  refine Gl.go ?_ (fun t k => XS.iloadN X147.here hx rfl (hb hby d2_14) rfl k)
  show Gl _ _ _ _ (T147.setTop (mkF m 15 _ [(.int (1 : Int32))]))
  refine Gl.go ?_ (fun t k => XS.aloadN X147.here hx rfl (hb hby d2_15) rfl rfl k)
  show Gl _ _ _ _ (T147.setTop (mkF m 16 #[.val (.ref a), .val (.ref ns), .val (.int (1 : Int32))] [(.ref ns), (.int (1 : Int32))]))
  refine Gl.go ?_ (RA.len hNS X147 hx hZ e147 (g := (mkF m 16 #[.val (.ref a), .val (.ref ns), .val (.int (1 : Int32))] [(.ref ns), (.int (1 : Int32))])) rfl rfl (hb hby d2_16))
  show Gl _ _ _ _ (T147.setTop (mkF m 17 _ [(.int (3 : Int32)), (.int (1 : Int32))]))
  refine Gl.go ?_ (fun t k => XS.icmpNo X147.here hx rfl (hb hby d2_17) rfl (tlt (by decide : (1 : Int32) < (3 : Int32))).2.1 k)
  show Gl _ _ _ _ (T147.setTop (mkF m 20 _ []))
  refine Gl.go ?_ (fun t k => XS.aloadN X147.here hx rfl (hb hby d2_20) rfl rfl k)
  show Gl _ _ _ _ (T147.setTop (mkF m 21 #[.val (.ref a), .val (.ref ns), .val (.int (1 : Int32))] [(.ref a)]))
  obtain ⟨T148, X148, e148, st148⟩ := getF X147 hx hZ hown (host := "") (Or.inl (hw _ (List.mem_of_getElem? (i := 77) rfl))) Via.refl e147 F_implied_a (g := (mkF m 21 #[.val (.ref a), .val (.ref ns), .val (.int (1 : Int32))] [(.ref a)])) rfl rfl (hb hby d2_21)
  refine Gl.go ?_ st148
  show Gl _ _ _ _ (T148.setTop (mkF m 24 _ [(.ref b144)]))
  refine Gl.go ?_ (fun t k => XS.iloadN X148.here hx rfl (hb hby d2_24) rfl k)
  show Gl _ _ _ _ (T148.setTop (mkF m 25 _ [(.int (1 : Int32)), (.ref b144)]))
  refine Gl.go ?_ (fun t k => XS.iconst X148.here hx rfl (hb hby d2_25) k)
  show Gl _ _ _ _ (T148.setTop (mkF m 26 _ [(.int (1 : Int32)), (.int (1 : Int32)), (.ref b144)]))
  refine Gl.go ?_ (fun t k => XS.iloadN X148.here hx rfl (hb hby d2_26) rfl k)
  show Gl _ _ _ _ (T148.setTop (mkF m 27 _ [(.int (1 : Int32)), (.int (1 : Int32)), (.int (1 : Int32)), (.ref b144)]))
  refine Gl.go ?_ (fun t k => XS.ishl X148.here hx rfl (hb hby d2_27) rfl k)
  show Gl _ _ _ _ (T148.setTop (mkF m 28 #[.val (.ref a), .val (.ref ns), .val (.int (1 : Int32))] [(.int ((1 : Int32) <<< ((1 : Int32) &&& 31))), (.int (1 : Int32)), (.ref b144)]))
  obtain ⟨cl149, Ar149, q149, S149, N149, Hh149, G149⟩ := V_b144
  obtain ⟨T149, h149, X149, e149, W149, st149⟩ := stI X148 hx hZ e148 Ar149 (j := (1 : Int32)) (inb_of S149 ⟨by decide, by decide⟩) (g := (mkF m 28 #[.val (.ref a), .val (.ref ns), .val (.int (1 : Int32))] [(.int ((1 : Int32) <<< ((1 : Int32) &&& 31))), (.int (1 : Int32)), (.ref b144)])) rfl rfl (hb hby d2_28)
  replace KP := KP.wr W149 (Or.inr sz_b144)
  replace LK143 := LK143.keep (Keep.of_wr W149) (Or.inr hi_b144)
  replace HI := Nat.le_trans HI (Keep.of_wr W149).1
  replace hNS := hNS.other W149 ne_ns_b144
  replace EI_b144 := EI_b144.wr W149
  replace E_a := E_a.wr W149
  replace F_names_a := F_names_a.other W149 (Or.inl ne_a_b144)
  replace F_implied_a := F_implied_a.other W149 (Or.inl ne_a_b144)
  replace Z0 := Nat.le_trans Z0 (Keep.of_wr W149).1
  have V_b144 : Arv Z h149 b144 k144 .int (3 : Int32) [(.int ((1 : Int32) <<< ((0 : Int32) &&& 31))), (.int ((1 : Int32) <<< ((1 : Int32) &&& 31))), (.int (0 : Int32))] (.int (0 : Int32)) := Arv.set Ar149 q149 S149 N149 Hh149 G149 rfl W149 1 rfl (Nat.le_of_ble_eq_true rfl)
  clear Hh149 G149 N149 S149 q149 W149
  clear Ar149
  clear cl149
  replace NF := Fr.snoc X149 NF g_b144
  refine Gl.go ?_ st149
  clear st149 X148 e148
  show Gl _ _ _ _ (T149.setTop (mkF m 29 #[.val (.ref a), .val (.ref ns), .val (.int (1 : Int32))] []))
  refine Gl.go ?_ (fun t k => XS.iinc X149.here hx rfl (hb hby d2_29) rfl (l' := #[.val (.ref a), .val (.ref ns), .val (.int (2 : Int32))]) rfl k)
  show Gl _ _ _ _ (T149.setTop (mkF m 32 _ []))
  refine Gl.go ?_ (fun t k => XS.goto X149.here hx rfl (pc0 := 32) (pc' := 14) rfl (hb hby d2_32) (by decide) (by decide) k)
  show Gl _ _ _ _ (T149.setTop (mkF m 14 _ []))
  refine Gl.go ?_ (fun t k => XS.iloadN X149.here hx rfl (hb hby d2_14) rfl k)
  show Gl _ _ _ _ (T149.setTop (mkF m 15 _ [(.int (2 : Int32))]))
  refine Gl.go ?_ (fun t k => XS.aloadN X149.here hx rfl (hb hby d2_15) rfl rfl k)
  show Gl _ _ _ _ (T149.setTop (mkF m 16 #[.val (.ref a), .val (.ref ns), .val (.int (2 : Int32))] [(.ref ns), (.int (2 : Int32))]))
  refine Gl.go ?_ (RA.len hNS X149 hx hZ e149 (g := (mkF m 16 #[.val (.ref a), .val (.ref ns), .val (.int (2 : Int32))] [(.ref ns), (.int (2 : Int32))])) rfl rfl (hb hby d2_16))
  show Gl _ _ _ _ (T149.setTop (mkF m 17 _ [(.int (3 : Int32)), (.int (2 : Int32))]))
  refine Gl.go ?_ (fun t k => XS.icmpNo X149.here hx rfl (hb hby d2_17) rfl (tlt (by decide : (2 : Int32) < (3 : Int32))).2.1 k)
  show Gl _ _ _ _ (T149.setTop (mkF m 20 _ []))
  refine Gl.go ?_ (fun t k => XS.aloadN X149.here hx rfl (hb hby d2_20) rfl rfl k)
  show Gl _ _ _ _ (T149.setTop (mkF m 21 #[.val (.ref a), .val (.ref ns), .val (.int (2 : Int32))] [(.ref a)]))
  obtain ⟨T150, X150, e150, st150⟩ := getF X149 hx hZ hown (host := "") (Or.inl (hw _ (List.mem_of_getElem? (i := 77) rfl))) Via.refl e149 F_implied_a (g := (mkF m 21 #[.val (.ref a), .val (.ref ns), .val (.int (2 : Int32))] [(.ref a)])) rfl rfl (hb hby d2_21)
  refine Gl.go ?_ st150
  show Gl _ _ _ _ (T150.setTop (mkF m 24 _ [(.ref b144)]))
  refine Gl.go ?_ (fun t k => XS.iloadN X150.here hx rfl (hb hby d2_24) rfl k)
  show Gl _ _ _ _ (T150.setTop (mkF m 25 _ [(.int (2 : Int32)), (.ref b144)]))
  refine Gl.go ?_ (fun t k => XS.iconst X150.here hx rfl (hb hby d2_25) k)
  show Gl _ _ _ _ (T150.setTop (mkF m 26 _ [(.int (1 : Int32)), (.int (2 : Int32)), (.ref b144)]))
  refine Gl.go ?_ (fun t k => XS.iloadN X150.here hx rfl (hb hby d2_26) rfl k)
  show Gl _ _ _ _ (T150.setTop (mkF m 27 _ [(.int (2 : Int32)), (.int (1 : Int32)), (.int (2 : Int32)), (.ref b144)]))
  refine Gl.go ?_ (fun t k => XS.ishl X150.here hx rfl (hb hby d2_27) rfl k)
  show Gl _ _ _ _ (T150.setTop (mkF m 28 #[.val (.ref a), .val (.ref ns), .val (.int (2 : Int32))] [(.int ((1 : Int32) <<< ((2 : Int32) &&& 31))), (.int (2 : Int32)), (.ref b144)]))
  obtain ⟨cl151, Ar151, q151, S151, N151, Hh151, G151⟩ := V_b144
  obtain ⟨T151, h151, X151, e151, W151, st151⟩ := stI X150 hx hZ e150 Ar151 (j := (2 : Int32)) (inb_of S151 ⟨by decide, by decide⟩) (g := (mkF m 28 #[.val (.ref a), .val (.ref ns), .val (.int (2 : Int32))] [(.int ((1 : Int32) <<< ((2 : Int32) &&& 31))), (.int (2 : Int32)), (.ref b144)])) rfl rfl (hb hby d2_28)
  replace KP := KP.wr W151 (Or.inr sz_b144)
  replace LK143 := LK143.keep (Keep.of_wr W151) (Or.inr hi_b144)
  replace HI := Nat.le_trans HI (Keep.of_wr W151).1
  replace hNS := hNS.other W151 ne_ns_b144
  replace EI_b144 := EI_b144.wr W151
  replace E_a := E_a.wr W151
  replace F_names_a := F_names_a.other W151 (Or.inl ne_a_b144)
  replace F_implied_a := F_implied_a.other W151 (Or.inl ne_a_b144)
  replace Z0 := Nat.le_trans Z0 (Keep.of_wr W151).1
  have V_b144 : Arv Z h151 b144 k144 .int (3 : Int32) [(.int ((1 : Int32) <<< ((0 : Int32) &&& 31))), (.int ((1 : Int32) <<< ((1 : Int32) &&& 31))), (.int ((1 : Int32) <<< ((2 : Int32) &&& 31)))] (.int (0 : Int32)) := Arv.set Ar151 q151 S151 N151 Hh151 G151 rfl W151 2 rfl (Nat.le_of_ble_eq_true rfl)
  clear Hh151 G151 N151 S151 q151 W151
  clear Ar151
  clear cl151
  replace NF := Fr.snoc X151 NF g_b144
  refine Gl.go ?_ st151
  clear st151 X150 e150
  show Gl _ _ _ _ (T151.setTop (mkF m 29 #[.val (.ref a), .val (.ref ns), .val (.int (2 : Int32))] []))
  refine Gl.go ?_ (fun t k => XS.iinc X151.here hx rfl (hb hby d2_29) rfl (l' := #[.val (.ref a), .val (.ref ns), .val (.int (3 : Int32))]) rfl k)
  show Gl _ _ _ _ (T151.setTop (mkF m 32 _ []))
  refine Gl.go ?_ (fun t k => XS.goto X151.here hx rfl (pc0 := 32) (pc' := 14) rfl (hb hby d2_32) (by decide) (by decide) k)
  show Gl _ _ _ _ (T151.setTop (mkF m 14 _ []))
  refine Gl.go ?_ (fun t k => XS.iloadN X151.here hx rfl (hb hby d2_14) rfl k)
  show Gl _ _ _ _ (T151.setTop (mkF m 15 _ [(.int (3 : Int32))]))
  refine Gl.go ?_ (fun t k => XS.aloadN X151.here hx rfl (hb hby d2_15) rfl rfl k)
  show Gl _ _ _ _ (T151.setTop (mkF m 16 #[.val (.ref a), .val (.ref ns), .val (.int (3 : Int32))] [(.ref ns), (.int (3 : Int32))]))
  refine Gl.go ?_ (RA.len hNS X151 hx hZ e151 (g := (mkF m 16 #[.val (.ref a), .val (.ref ns), .val (.int (3 : Int32))] [(.ref ns), (.int (3 : Int32))])) rfl rfl (hb hby d2_16))
  show Gl _ _ _ _ (T151.setTop (mkF m 17 _ [(.int (3 : Int32)), (.int (3 : Int32))]))
  refine Gl.go ?_ (fun t k => XS.icmpYes X151.here hx rfl (pc0 := 17) (pc' := 35) rfl (hb hby d2_17) rfl (flt (by decide : ¬ ((3 : Int32) < (3 : Int32)))).2.1 (by decide) (by decide) k)
  show Gl _ _ _ _ (T151.setTop (mkF m 35 _ []))
  obtain ⟨fs, hr, hrun, hended, hW, hsame⟩ := X151.leave (v := none) (fun _ => rfl) (BodyLoose.notSynchronized Bd)
  exact Gl.mk ⟨_, _, X151.returnOut hx Bd.returns (hb hby d2_35) hr, hrun, hended, _, _, rfl, own_cast (P := fun H v L => QA1 Z a 3 A h0 n0 v H L) e151 ⟨NF, ⟨rfl, KP, E_a, _, b144, F_names_a, F_implied_a, LK143.lk, own_ia [((1 : Int32) <<< ((0 : Int32) &&& 31)), ((1 : Int32) <<< ((1 : Int32) &&& 31)), ((1 : Int32) <<< ((2 : Int32) &&& 31))] (own_bits 3) V_b144 EI_b144 (by decide) (by decide)⟩⟩, ⟨_, rfl⟩, hW, hsame.mono (by decide) (by decide)⟩
theorem ef_rm_ai1_4 (m : MethodId) (x0 : Addr) (x1 : Addr) : entryFrame m #[(.ref x0), (.ref x1)] 3 = mkF m 0 #[.val (.ref x0), .val (.ref x1), .unset] [] := by first | (simp [entryFrame, mkF, argsToLocals, Value.category]; done) | rfl
set_option maxRecDepth 65536 in
set_option maxHeartbeats 40000000 in
theorem rm_ai1_4 (l : Launch) (Z : State) (a0 : Array Value) (hw : ∀ d ∈ tables_1, d.before a0 Z = true) (ws : List Jvm.Cond) (a : Addr) (ns : Addr) (A : Nat → Addr) (em el : Addr) (u_names u_implied : Value) (h0 : Heap) (n0 : Nat) (Z0 : n0 ≤ h0.size) (E_a : Exa Z h0 a "com/example/grantline/grantline/engine/Actions") (g_a : n0 ≤ a) (F_names_a : Fld Z h0 a "com/example/grantline/grantline/engine/Actions" "names" "Ljava/util/List;" u_names) (F_implied_a : Fld Z h0 a "com/example/grantline/grantline/engine/Actions" "implied" "[I" u_implied) (hna : ns ≠ a) (hNS : RA Z h0 ns (.object "java/lang/String") (4 : Int32) A) (hE : ∀ i, i < 4 → Exa Z h0 (A i) "java/lang/String") (S_EM : Sta Z h0 "java/util/ImmutableCollections" "EMPTY" "Ljava/lang/Object;" (.ref em)) (S_EL : Sta Z h0 "java/util/ImmutableCollections" "EMPTY_LIST" "Ljava/util/ImmutableCollections$ListN;" (.ref el)) :
    MetFree l (⟨"com/example/grantline/grantline/engine/Actions", "<init>", "([Ljava/lang/String;)V"⟩ : MethodName) (head1 (Jvm.Cond.code (⟨"com/example/grantline/grantline/engine/Actions", "<init>", "([Ljava/lang/String;)V"⟩ : MethodName) prog_18_method_1_code 3 none :: ws) ({ frames := 7, cells := 3, slots := 12, locals := 91 } : Room)) (fun aQ U => aQ = #[(.ref a), (.ref ns)] ∧ Z.Warmed39 U.vm ∧ U.heap = h0) (fun _ _ _ _ _ => True) (fun _ U o U' => ∃ vQ LQ, o = .returned vQ ∧ QA1 Z a 4 A h0 n0 vQ U'.heap LQ ∧ FrameEnd U o U' LQ ({ frames := 7, cells := 3, slots := 12, locals := 91 } : Room).cells ({ frames := 7, cells := 3, slots := 12, locals := 91 } : Room).slots) := by
  refine MetFree.of_bodySF (plainFor_of_name pn_2) hisR ?_
  intro p e s m args below meth c s₁ Bd hml0 hP hK
  obtain ⟨rfl, hZ, hh⟩ := hP
  have hx := Bd.exec
  have hby := Bd.bytes
  have hml : c.maxLocals = 3 := hml0
  have hown : s.vm.findClass "com/example/grantline/grantline/engine/Actions" = some m.cls := findClass_of_methodNamed Bd.named
  have hnm := (name_of_methodNamed Bd.named Bd.method).1
  have X0 : Stand p l e ({ frames := 7, cells := 3, slots := 12, locals := 91 } : Room) s m #[(.ref a), (.ref ns)] below meth c s₁ [] 0 0 := Stand.of_body Bd
  have e0 : s₁.heap = h0 := by rw [← hh, Bd.state]; rfl
  have NF := Fr.nil n0
  have KP : Keep h0 h0 [a] := Keep.refl h0 [a]
  have ha0 := E_a.lt
  refine Gl.out ?_
  refine Gl.go ?_ (fun t k => castTop (ef_rm_ai1_4 m a ns) k)
  show Gl _ _ _ _ (s₁.setTop (mkF m 0 _ []))
  refine Gl.go ?_ (fun t k => XS.aloadN X0.here hx rfl (hb hby d2_0) rfl rfl k)
  show Gl _ _ _ _ (s₁.setTop (mkF m 1 _ [(.ref a)]))
  refine Gl.go ?_ (fun t k => XS.aloadN X0.here hx rfl (hb hby d2_1) rfl rfl k)
  show Gl _ _ _ _ (s₁.setTop (mkF m 2 #[.val (.ref a), .val (.ref ns), .unset] [(.ref ns), (.ref a)]))
  obtain ⟨_, _, ⟨T152, L152, k152, n152⟩, -, X152, ⟨Lc152, hQ152, l152, y152, z152⟩, st152⟩ := Jvm.LawKit.callS X0 hx (y := (⟨"java/util/List", "of", "([Ljava/lang/Object;)Ljava/util/List;"⟩ : MethodName)) hown (mvT hZ (hw _ (List.mem_of_getElem? (i := 23) rfl))) (mvT hZ (hw _ (List.mem_of_getElem? (i := 24) rfl))) (mvT hZ (hw _ (List.mem_of_getElem? (i := 25) rfl))) (mvT hZ (hw _ (List.mem_of_getElem? (i := 26) rfl))) (by decide) (backOf (W := 1) (rm_lof_4 l Z a0 hw [] ns A em el h0 n0 Z0 hNS hE S_EM S_EL) hZ (hw _ (List.mem_of_getElem? (i := 26) rfl)) (hw _ (List.mem_of_getElem? (i := 25) rfl)) (by decide) (by decide)) (g := (mkF m 2 #[.val (.ref a), .val (.ref ns), .unset] [(.ref ns), (.ref a)])) rfl (by rw [hml]; rfl) (argsL := [(.ref ns)]) (rest := [(.ref a)]) (lenOf pd_9 rfl) rfl (by show 2 * 0 + _ ≤ _; exact Nat.le_of_eq rfl) (hb hby d2_2) (fun _ _ => ⟨rfl, e0, (by decide : 0 + 2 ≤ _), (by decide : 0 + 6 ≤ _)⟩)
  dsimp only [Pt.U, Pt.locs, Pt.cells, Pt.slots] at X152 l152 y152 z152 st152 hQ152
  rw [l152, y152, z152] at X152
  clear l152 y152 z152
  obtain ⟨N152q, ls152, rfl, EX152, LK152⟩ := hQ152
  replace NF := Fr.app NF N152q
  replace KP := KP.ext EX152
  replace E_a := E_a.ext EX152
  replace hNS := hNS.ext EX152
  replace F_names_a := F_names_a.ext EX152
  replace F_implied_a := F_implied_a.ext EX152
  replace Z0 := Nat.le_trans Z0 EX152.1
  have HI := Nat.le_refl T152.heap.size
  refine Gl.go ?_ st152
  show Gl _ _ _ _ (T152.setTop (mkF m 5 _ [(.ref ls152), (.ref a)]))
  refine Gl.go ?_ (fun t k => XS.aloadN X152.here hx rfl (hb hby d2_5) rfl rfl k)
  show Gl _ _ _ _ (T152.setTop (mkF m 6 #[.val (.ref a), .val (.ref ns), .unset] [(.ref ns), (.ref ls152), (.ref a)]))
  refine Gl.go ?_ (RA.len hNS X152 hx hZ rfl (g := (mkF m 6 #[.val (.ref a), .val (.ref ns), .unset] [(.ref ns), (.ref ls152), (.ref a)])) rfl rfl (hb hby d2_6))
  show Gl _ _ _ _ (T152.setTop (mkF m 7 #[.val (.ref a), .val (.ref ns), .unset] [(.int (4 : Int32)), (.ref ls152), (.ref a)]))
  obtain ⟨T153, h153, k153, X153, e153, E153, A153, B153, st153⟩ := newPE X152 hx hZ (hw _ (List.mem_of_getElem? (i := 70) rfl)) rfl (g := (mkF m 7 #[.val (.ref a), .val (.ref ns), .unset] [(.int (4 : Int32)), (.ref ls152), (.ref a)])) rfl (hb hby d2_7) rfl (by decide) (cap := 4) (by decide) (by decide) (by decide) (by decide) (ad := "[I") (by decide)
  obtain ⟨b153, g153⟩ : ∃ z, z = T152.heap.size := ⟨_, rfl⟩
  rw [← g153] at A153 B153 st153
  have g_b153 : n0 ≤ b153 := Nat.le_trans Z0 (Nat.le_of_eq g153.symm)
  have ne_a_b153 : a ≠ b153 := Nat.ne_of_lt (Nat.lt_of_lt_of_le E_a.lt (Nat.le_of_eq g153.symm))
  have ne_ns_b153 : ns ≠ b153 := Nat.ne_of_lt (Nat.lt_of_lt_of_le hNS.lt (Nat.le_of_eq g153.symm))
  have sz_b153 : (h0).size ≤ b153 := Nat.le_trans KP.1 (Nat.le_of_eq g153.symm)
  have hi_b153 := Nat.le_trans HI (Nat.le_of_eq g153.symm)
  replace KP := KP.ext E153
  replace LK152 := LK152.ext E153
  replace HI := Nat.le_trans HI E153.1
  replace E_a := E_a.ext E153
  replace hNS := hNS.ext E153
  replace F_names_a := F_names_a.ext E153
  replace F_implied_a := F_implied_a.ext E153
  replace Z0 := Nat.le_trans Z0 E153.1
  have V_b153 : Arv Z h153 b153 k153 .int (4 : Int32) [(.int (0 : Int32)), (.int (0 : Int32)), (.int (0 : Int32)), (.int (0 : Int32))] (.int (0 : Int32)) := (Arv.new A153 (by decide)).pad (pad_rep [] (.int (0 : Int32)) 4)
  have EI_b153 := B153
  refine Gl.go ?_ st153
  show Gl _ _ _ _ (T153.setTop (mkF m 9 #[.val (.ref a), .val (.ref ns), .unset] [(.ref b153), (.ref ls152), (.ref a)]))
  obtain ⟨_, _, ⟨T154, L154, k154, n154⟩, -, X154, ⟨Lc154, hQ154, l154, y154, z154⟩, st154⟩ := X153.specialBack hx (y := (⟨"com/example/grantline/grantline/engine/Actions", "<init>", "(Ljava/util/List;[I)V"⟩ : MethodName)) rfl hown (mvT hZ (hw _ (List.mem_of_getElem? (i := 71) rfl))) (mvT hZ (hw _ (List.mem_of_getElem? (i := 72) rfl))) (mvT hZ (hw _ (List.mem_of_getElem? (i := 73) rfl))) (by decide) (backOf (W := 0) (rm11 l Z a0 hw [] a ls152 b153  _ _ h153 n0 Z0 E_a g_a F_names_a F_implied_a ) hZ (hw _ (List.mem_of_getElem? (i := 73) rfl)) (hw _ (List.mem_of_getElem? (i := 19) rfl)) (by decide) (by decide)) (g := (mkF m 9 #[.val (.ref a), .val (.ref ns), .unset] [(.ref b153), (.ref ls152), (.ref a)])) rfl (by rw [hml]; rfl) (Steps.refl _) (a := a) (argsL := [(.ref ls152), (.ref b153)]) (rest := []) (lenOf pd_10 rfl) rfl (by show 2 * 0 + _ ≤ _; exact Nat.le_of_eq rfl) (hb hby d2_9) (fun _ _ => ⟨rfl, e153, (by decide : 3 + 0 ≤ _), (by decide : 10 + 0 ≤ _)⟩)
  dsimp only [Pt.U, Pt.locs, Pt.cells, Pt.slots] at X154 l154 y154 z154 st154 hQ154
  rw [l154, y154, z154] at X154
  clear l154 y154 z154
  obtain ⟨N154q, rfl, K154, ec154, f154_names, f154_implied⟩ := hQ154
  replace NF := Fr.app NF N154q
  replace KP := KP.trans K154 (fun y hy => Or.inl hy)
  replace LK152 := LK152.keep K154 (Or.inl ha0)
  replace HI := Nat.le_trans HI K154.1
  replace hNS := hNS.keep K154 (ninS hna nin0)
  replace V_b153 := V_b153.keep K154 (ninS (Ne.symm ne_a_b153) nin0)
  replace EI_b153 := EI_b153.keep K154
  replace Z0 := Nat.le_trans Z0 K154.1
  replace E_a := ec154
  replace F_names_a := f154_names
  replace F_implied_a := f154_implied
  refine Gl.tr ?_ st154
  show Gl _ _ _ _ (T154.setTop (mkF m 12 _ []))
  refine Gl.go ?_ (fun t k => XS.iconst X154.here hx rfl (hb hby d2_12) k)
  show Gl _ _ _ _ (T154.setTop (mkF m 13 #[.val (.ref a), .val (.ref ns), .unset] [(.int (0 : Int32))]))
  refine Gl.go ?_ (fun t k => XS.istoreN X154.here hx rfl (hb hby d2_13) rfl (l' := #[.val (.ref a), .val (.ref ns), .val (.int (0 : Int32))]) rfl k)
  show Gl _ _ _ _ (T154.setTop (mkF m 14 _ []))
  refine Gl.go ?_ (fun t k => XS.iloadN X154.here hx rfl (hb hby d2_14) rfl k)
  show Gl _ _ _ _ (T154.setTop (mkF m 15 _ [(.int (0 : Int32))]))
  refine Gl.go ?_ (fun t k => XS.aloadN X154.here hx rfl (hb hby d2_15) rfl rfl k)
  show Gl _ _ _ _ (T154.setTop (mkF m 16 #[.val (.ref a), .val (.ref ns), .val (.int (0 : Int32))] [(.ref ns), (.int (0 : Int32))]))
  refine Gl.go ?_ (RA.len hNS X154 hx hZ rfl (g := (mkF m 16 #[.val (.ref a), .val (.ref ns), .val (.int (0 : Int32))] [(.ref ns), (.int (0 : Int32))])) rfl rfl (hb hby d2_16))
  show Gl _ _ _ _ (T154.setTop (mkF m 17 _ [(.int (4 : Int32)), (.int (0 : Int32))]))
  refine Gl.go ?_ (fun t k => XS.icmpNo X154.here hx rfl (hb hby d2_17) rfl (tlt (by decide : (0 : Int32) < (4 : Int32))).2.1 k)
  show Gl _ _ _ _ (T154.setTop (mkF m 20 _ []))
  refine Gl.go ?_ (fun t k => XS.aloadN X154.here hx rfl (hb hby d2_20) rfl rfl k)
  show Gl _ _ _ _ (T154.setTop (mkF m 21 #[.val (.ref a), .val (.ref ns), .val (.int (0 : Int32))] [(.ref a)]))
  obtain ⟨T155, X155, e155, st155⟩ := getF X154 hx hZ hown (host := "") (Or.inl (hw _ (List.mem_of_getElem? (i := 77) rfl))) Via.refl rfl F_implied_a (g := (mkF m 21 #[.val (.ref a), .val (.ref ns), .val (.int (0 : Int32))] [(.ref a)])) rfl rfl (hb hby d2_21)
  refine Gl.go ?_ st155
  show Gl _ _ _ _ (T155.setTop (mkF m 24 _ [(.ref b153)]))
  refine Gl.go ?_ (fun t k => XS.iloadN X155.here hx rfl (hb hby d2_24) rfl k)
  show Gl _ _ _ _ (T155.setTop (mkF m 25 _ [(.int (0 : Int32)), (.ref b153)]))
  refine Gl.go ?_ (fun t k => XS.iconst X155.here hx rfl (hb hby d2_25) k)
  show Gl _ _ _ _ (T155.setTop (mkF m 26 _ [(.int (1 : Int32)), (.int (0 : Int32)), (.ref b153)]))
  refine Gl.go ?_ (fun t k => XS.iloadN X155.here hx rfl (hb hby d2_26) rfl k)
  show Gl _ _ _ _ (T155.setTop (mkF m 27 _ [(.int (0 : Int32)), (.int (1 : Int32)), (.int (0 : Int32)), (.ref b153)]))
  refine Gl.go ?_ (fun t k => XS.ishl X155.here hx rfl (hb hby d2_27) rfl k)
  show Gl _ _ _ _ (T155.setTop (mkF m 28 #[.val (.ref a), .val (.ref ns), .val (.int (0 : Int32))] [(.int ((1 : Int32) <<< ((0 : Int32) &&& 31))), (.int (0 : Int32)), (.ref b153)]))
  obtain ⟨cl156, Ar156, q156, S156, N156, Hh156, G156⟩ := V_b153
  obtain ⟨T156, h156, X156, e156, W156, st156⟩ := stI X155 hx hZ e155 Ar156 (j := (0 : Int32)) (inb_of S156 ⟨by decide, by decide⟩) (g := (mkF m 28 #[.val (.ref a), .val (.ref ns), .val (.int (0 : Int32))] [(.int ((1 : Int32) <<< ((0 : Int32) &&& 31))), (.int (0 : Int32)), (.ref b153)])) rfl rfl (hb hby d2_28)
  replace KP := KP.wr W156 (Or.inr sz_b153)
  replace LK152 := LK152.keep (Keep.of_wr W156) (Or.inr hi_b153)
  replace HI := Nat.le_trans HI (Keep.of_wr W156).1
  replace hNS := hNS.other W156 ne_ns_b153
  replace EI_b153 := EI_b153.wr W156
  replace E_a := E_a.wr W156
  replace F_names_a := F_names_a.other W156 (Or.inl ne_a_b153)
  replace F_implied_a := F_implied_a.other W156 (Or.inl ne_a_b153)
  replace Z0 := Nat.le_trans Z0 (Keep.of_wr W156).1
  have V_b153 : Arv Z h156 b153 k153 .int (4 : Int32) [(.int ((1 : Int32) <<< ((0 : Int32) &&& 31))), (.int (0 : Int32)), (.int (0 : Int32)), (.int (0 : Int32))] (.int (0 : Int32)) := Arv.set Ar156 q156 S156 N156 Hh156 G156 rfl W156 0 rfl (Nat.le_of_ble_eq_true rfl)
  clear Hh156 G156 N156 S156 q156 W156
  clear Ar156
  clear cl156
  replace NF := Fr.snoc X156 NF g_b153
  refine Gl.go ?_ st156
  clear st156 X155 e155
  show Gl _ _ _ _ (T156.setTop (mkF m 29 #[.val (.ref a), .val (.ref ns), .val (.int (0 : Int32))] []))
  refine Gl.go ?_ (fun t k => XS.iinc X156.here hx rfl (hb hby d2_29) rfl (l' := #[.val (.ref a), .val (.ref ns), .val (.int (1 : Int32))]) rfl k)
  show Gl _ _ _ _ (T156.setTop (mkF m 32 _ []))
  refine Gl.go ?_ (fun t k => XS.goto X156.here hx rfl (pc0 := 32) (pc' := 14) rfl (hb hby d2_32) (by decide) (by decide) k)
  show Gl _ _ _ _ (T156.setTop (mkF m 14 _ []))
  refine Gl.go ?_ (fun t k => XS.iloadN X156.here hx rfl (hb hby d2_14) rfl k)
  show Gl _ _ _ _ (T156.setTop (mkF m 15 _ [(.int (1 : Int32))]))
  refine Gl.go ?_ (fun t k => XS.aloadN X156.here hx rfl (hb hby d2_15) rfl rfl k)
  show Gl _ _ _ _ (T156.setTop (mkF m 16 #[.val (.ref a), .val (.ref ns), .val (.int (1 : Int32))] [(.ref ns), (.int (1 : Int32))]))
  refine Gl.go ?_ (RA.len hNS X156 hx hZ e156 (g := (mkF m 16 #[.val (.ref a), .val (.ref ns), .val (.int (1 : Int32))] [(.ref ns), (.int (1 : Int32))])) rfl rfl (hb hby d2_16))
  show Gl _ _ _ _ (T156.setTop (mkF m 17 _ [(.int (4 : Int32)), (.int (1 : Int32))]))
  refine Gl.go ?_ (fun t k => XS.icmpNo X156.here hx rfl (hb hby d2_17) rfl (tlt (by decide : (1 : Int32) < (4 : Int32))).2.1 k)
  show Gl _ _ _ _ (T156.setTop (mkF m 20 _ []))
  refine Gl.go ?_ (fun t k => XS.aloadN X156.here hx rfl (hb hby d2_20) rfl rfl k)
  show Gl _ _ _ _ (T156.setTop (mkF m 21 #[.val (.ref a), .val (.ref ns), .val (.int (1 : Int32))] [(.ref a)]))
  obtain ⟨T157, X157, e157, st157⟩ := getF X156 hx hZ hown (host := "") (Or.inl (hw _ (List.mem_of_getElem? (i := 77) rfl))) Via.refl e156 F_implied_a (g := (mkF m 21 #[.val (.ref a), .val (.ref ns), .val (.int (1 : Int32))] [(.ref a)])) rfl rfl (hb hby d2_21)
  refine Gl.go ?_ st157
  show Gl _ _ _ _ (T157.setTop (mkF m 24 _ [(.ref b153)]))
  refine Gl.go ?_ (fun t k => XS.iloadN X157.here hx rfl (hb hby d2_24) rfl k)
  show Gl _ _ _ _ (T157.setTop (mkF m 25 _ [(.int (1 : Int32)), (.ref b153)]))
  refine Gl.go ?_ (fun t k => XS.iconst X157.here hx rfl (hb hby d2_25) k)
  show Gl _ _ _ _ (T157.setTop (mkF m 26 _ [(.int (1 : Int32)), (.int (1 : Int32)), (.ref b153)]))
  refine Gl.go ?_ (fun t k => XS.iloadN X157.here hx rfl (hb hby d2_26) rfl k)
  show Gl _ _ _ _ (T157.setTop (mkF m 27 _ [(.int (1 : Int32)), (.int (1 : Int32)), (.int (1 : Int32)), (.ref b153)]))
  refine Gl.go ?_ (fun t k => XS.ishl X157.here hx rfl (hb hby d2_27) rfl k)
  show Gl _ _ _ _ (T157.setTop (mkF m 28 #[.val (.ref a), .val (.ref ns), .val (.int (1 : Int32))] [(.int ((1 : Int32) <<< ((1 : Int32) &&& 31))), (.int (1 : Int32)), (.ref b153)]))
  obtain ⟨cl158, Ar158, q158, S158, N158, Hh158, G158⟩ := V_b153
  obtain ⟨T158, h158, X158, e158, W158, st158⟩ := stI X157 hx hZ e157 Ar158 (j := (1 : Int32)) (inb_of S158 ⟨by decide, by decide⟩) (g := (mkF m 28 #[.val (.ref a), .val (.ref ns), .val (.int (1 : Int32))] [(.int ((1 : Int32) <<< ((1 : Int32) &&& 31))), (.int (1 : Int32)), (.ref b153)])) rfl rfl (hb hby d2_28)
  replace KP := KP.wr W158 (Or.inr sz_b153)
  replace LK152 := LK152.keep (Keep.of_wr W158) (Or.inr hi_b153)
  replace HI := Nat.le_trans HI (Keep.of_wr W158).1
  replace hNS := hNS.other W158 ne_ns_b153
  replace EI_b153 := EI_b153.wr W158
  replace E_a := E_a.wr W158
  replace F_names_a := F_names_a.other W158 (Or.inl ne_a_b153)
  replace F_implied_a := F_implied_a.other W158 (Or.inl ne_a_b153)
  replace Z0 := Nat.le_trans Z0 (Keep.of_wr W158).1
  have V_b153 : Arv Z h158 b153 k153 .int (4 : Int32) [(.int ((1 : Int32) <<< ((0 : Int32) &&& 31))), (.int ((1 : Int32) <<< ((1 : Int32) &&& 31))), (.int (0 : Int32)), (.int (0 : Int32))] (.int (0 : Int32)) := Arv.set Ar158 q158 S158 N158 Hh158 G158 rfl W158 1 rfl (Nat.le_of_ble_eq_true rfl)
  clear Hh158 G158 N158 S158 q158 W158
  clear Ar158
  clear cl158
  replace NF := Fr.snoc X158 NF g_b153
  refine Gl.go ?_ st158
  clear st158 X157 e157
  show Gl _ _ _ _ (T158.setTop (mkF m 29 #[.val (.ref a), .val (.ref ns), .val (.int (1 : Int32))] []))
  refine Gl.go ?_ (fun t k => XS.iinc X158.here hx rfl (hb hby d2_29) rfl (l' := #[.val (.ref a), .val (.ref ns), .val (.int (2 : Int32))]) rfl k)
  show Gl _ _ _ _ (T158.setTop (mkF m 32 _ []))
  refine Gl.go ?_ (fun t k => XS.goto X158.here hx rfl (pc0 := 32) (pc' := 14) rfl (hb hby d2_32) (by decide) (by decide) k)
  show Gl _ _ _ _ (T158.setTop (mkF m 14 _ []))
  refine Gl.go ?_ (fun t k => XS.iloadN X158.here hx rfl (hb hby d2_14) rfl k)
  show Gl _ _ _ _ (T158.setTop (mkF m 15 _ [(.int (2 : Int32))]))
  refine Gl.go ?_ (fun t k => XS.aloadN X158.here hx rfl (hb hby d2_15) rfl rfl k)
  show Gl _ _ _ _ (T158.setTop (mkF m 16 #[.val (.ref a), .val (.ref ns), .val (.int (2 : Int32))] [(.ref ns), (.int (2 : Int32))]))
  refine Gl.go ?_ (RA.len hNS X158 hx hZ e158 (g := (mkF m 16 #[.val (.ref a), .val (.ref ns), .val (.int (2 : Int32))] [(.ref ns), (.int (2 : Int32))])) rfl rfl (hb hby d2_16))
  show Gl _ _ _ _ (T158.setTop (mkF m 17 _ [(.int (4 : Int32)), (.int (2 : Int32))]))
  refine Gl.go ?_ (fun t k => XS.icmpNo X158.here hx rfl (hb hby d2_17) rfl (tlt (by decide : (2 : Int32) < (4 : Int32))).2.1 k)
  show Gl _ _ _ _ (T158.setTop (mkF m 20 _ []))
  refine Gl.go ?_ (fun t k => XS.aloadN X158.here hx rfl (hb hby d2_20) rfl rfl k)
  show Gl _ _ _ _ (T158.setTop (mkF m 21 #[.val (.ref a), .val (.ref ns), .val (.int (2 : Int32))] [(.ref a)]))
  obtain ⟨T159, X159, e159, st159⟩ := getF X158 hx hZ hown (host := "") (Or.inl (hw _ (List.mem_of_getElem? (i := 77) rfl))) Via.refl e158 F_implied_a (g := (mkF m 21 #[.val (.ref a), .val (.ref ns), .val (.int (2 : Int32))] [(.ref a)])) rfl rfl (hb hby d2_21)
  refine Gl.go ?_ st159
  show Gl _ _ _ _ (T159.setTop (mkF m 24 _ [(.ref b153)]))
  refine Gl.go ?_ (fun t k => XS.iloadN X159.here hx rfl (hb hby d2_24) rfl k)
  show Gl _ _ _ _ (T159.setTop (mkF m 25 _ [(.int (2 : Int32)), (.ref b153)]))
  refine Gl.go ?_ (fun t k => XS.iconst X159.here hx rfl (hb hby d2_25) k)
  show Gl _ _ _ _ (T159.setTop (mkF m 26 _ [(.int (1 : Int32)), (.int (2 : Int32)), (.ref b153)]))
  refine Gl.go ?_ (fun t k => XS.iloadN X159.here hx rfl (hb hby d2_26) rfl k)
  show Gl _ _ _ _ (T159.setTop (mkF m 27 _ [(.int (2 : Int32)), (.int (1 : Int32)), (.int (2 : Int32)), (.ref b153)]))
  refine Gl.go ?_ (fun t k => XS.ishl X159.here hx rfl (hb hby d2_27) rfl k)
  show Gl _ _ _ _ (T159.setTop (mkF m 28 #[.val (.ref a), .val (.ref ns), .val (.int (2 : Int32))] [(.int ((1 : Int32) <<< ((2 : Int32) &&& 31))), (.int (2 : Int32)), (.ref b153)]))
  obtain ⟨cl160, Ar160, q160, S160, N160, Hh160, G160⟩ := V_b153
  obtain ⟨T160, h160, X160, e160, W160, st160⟩ := stI X159 hx hZ e159 Ar160 (j := (2 : Int32)) (inb_of S160 ⟨by decide, by decide⟩) (g := (mkF m 28 #[.val (.ref a), .val (.ref ns), .val (.int (2 : Int32))] [(.int ((1 : Int32) <<< ((2 : Int32) &&& 31))), (.int (2 : Int32)), (.ref b153)])) rfl rfl (hb hby d2_28)
  replace KP := KP.wr W160 (Or.inr sz_b153)
  replace LK152 := LK152.keep (Keep.of_wr W160) (Or.inr hi_b153)
  replace HI := Nat.le_trans HI (Keep.of_wr W160).1
  replace hNS := hNS.other W160 ne_ns_b153
  replace EI_b153 := EI_b153.wr W160
  replace E_a := E_a.wr W160
  replace F_names_a := F_names_a.other W160 (Or.inl ne_a_b153)
  replace F_implied_a := F_implied_a.other W160 (Or.inl ne_a_b153)
  replace Z0 := Nat.le_trans Z0 (Keep.of_wr W160).1
  have V_b153 : Arv Z h160 b153 k153 .int (4 : Int32) [(.int ((1 : Int32) <<< ((0 : Int32) &&& 31))), (.int ((1 : Int32) <<< ((1 : Int32) &&& 31))), (.int ((1 : Int32) <<< ((2 : Int32) &&& 31))), (.int (0 : Int32))] (.int (0 : Int32)) := Arv.set Ar160 q160 S160 N160 Hh160 G160 rfl W160 2 rfl (Nat.le_of_ble_eq_true rfl)
  clear Hh160 G160 N160 S160 q160 W160
  clear Ar160
  clear cl160
  replace NF := Fr.snoc X160 NF g_b153
  refine Gl.go ?_ st160
  clear st160 X159 e159
  show Gl _ _ _ _ (T160.setTop (mkF m 29 #[.val (.ref a), .val (.ref ns), .val (.int (2 : Int32))] []))
  refine Gl.go ?_ (fun t k => XS.iinc X160.here hx rfl (hb hby d2_29) rfl (l' := #[.val (.ref a), .val (.ref ns), .val (.int (3 : Int32))]) rfl k)
  show Gl _ _ _ _ (T160.setTop (mkF m 32 _ []))
  refine Gl.go ?_ (fun t k => XS.goto X160.here hx rfl (pc0 := 32) (pc' := 14) rfl (hb hby d2_32) (by decide) (by decide) k)
  show Gl _ _ _ _ (T160.setTop (mkF m 14 _ []))
  refine Gl.go ?_ (fun t k => XS.iloadN X160.here hx rfl (hb hby d2_14) rfl k)
  show Gl _ _ _ _ (T160.setTop (mkF m 15 _ [(.int (3 : Int32))]))
  refine Gl.go ?_ (fun t k => XS.aloadN X160.here hx rfl (hb hby d2_15) rfl rfl k)
  show Gl _ _ _ _ (T160.setTop (mkF m 16 #[.val (.ref a), .val (.ref ns), .val (.int (3 : Int32))] [(.ref ns), (.int (3 : Int32))]))
  refine Gl.go ?_ (RA.len hNS X160 hx hZ e160 (g := (mkF m 16 #[.val (.ref a), .val (.ref ns), .val (.int (3 : Int32))] [(.ref ns), (.int (3 : Int32))])) rfl rfl (hb hby d2_16))
  show Gl _ _ _ _ (T160.setTop (mkF m 17 _ [(.int (4 : Int32)), (.int (3 : Int32))]))
  refine Gl.go ?_ (fun t k => XS.icmpNo X160.here hx rfl (hb hby d2_17) rfl (tlt (by decide : (3 : Int32) < (4 : Int32))).2.1 k)
  show Gl _ _ _ _ (T160.setTop (mkF m 20 _ []))
  refine Gl.go ?_ (fun t k => XS.aloadN X160.here hx rfl (hb hby d2_20) rfl rfl k)
  show Gl _ _ _ _ (T160.setTop (mkF m 21 #[.val (.ref a), .val (.ref ns), .val (.int (3 : Int32))] [(.ref a)]))
  obtain ⟨T161, X161, e161, st161⟩ := getF X160 hx hZ hown (host := "") (Or.inl (hw _ (List.mem_of_getElem? (i := 77) rfl))) Via.refl e160 F_implied_a (g := (mkF m 21 #[.val (.ref a), .val (.ref ns), .val (.int (3 : Int32))] [(.ref a)])) rfl rfl (hb hby d2_21)
  refine Gl.go ?_ st161
  show Gl _ _ _ _ (T161.setTop (mkF m 24 _ [(.ref b153)]))
  refine Gl.go ?_ (fun t k => XS.iloadN X161.here hx rfl (hb hby d2_24) rfl k)
  show Gl _ _ _ _ (T161.setTop (mkF m 25 _ [(.int (3 : Int32)), (.ref b153)]))
  refine Gl.go ?_ (fun t k => XS.iconst X161.here hx rfl (hb hby d2_25) k)
  show Gl _ _ _ _ (T161.setTop (mkF m 26 _ [(.int (1 : Int32)), (.int (3 : Int32)), (.ref b153)]))
  refine Gl.go ?_ (fun t k => XS.iloadN X161.here hx rfl (hb hby d2_26) rfl k)
  show Gl _ _ _ _ (T161.setTop (mkF m 27 _ [(.int (3 : Int32)), (.int (1 : Int32)), (.int (3 : Int32)), (.ref b153)]))
  refine Gl.go ?_ (fun t k => XS.ishl X161.here hx rfl (hb hby d2_27) rfl k)
  show Gl _ _ _ _ (T161.setTop (mkF m 28 #[.val (.ref a), .val (.ref ns), .val (.int (3 : Int32))] [(.int ((1 : Int32) <<< ((3 : Int32) &&& 31))), (.int (3 : Int32)), (.ref b153)]))
  obtain ⟨cl162, Ar162, q162, S162, N162, Hh162, G162⟩ := V_b153
  obtain ⟨T162, h162, X162, e162, W162, st162⟩ := stI X161 hx hZ e161 Ar162 (j := (3 : Int32)) (inb_of S162 ⟨by decide, by decide⟩) (g := (mkF m 28 #[.val (.ref a), .val (.ref ns), .val (.int (3 : Int32))] [(.int ((1 : Int32) <<< ((3 : Int32) &&& 31))), (.int (3 : Int32)), (.ref b153)])) rfl rfl (hb hby d2_28)
  replace KP := KP.wr W162 (Or.inr sz_b153)
  replace LK152 := LK152.keep (Keep.of_wr W162) (Or.inr hi_b153)
  replace HI := Nat.le_trans HI (Keep.of_wr W162).1
  replace hNS := hNS.other W162 ne_ns_b153
  replace EI_b153 := EI_b153.wr W162
  replace E_a := E_a.wr W162
  replace F_names_a := F_names_a.other W162 (Or.inl ne_a_b153)
  replace F_implied_a := F_implied_a.other W162 (Or.inl ne_a_b153)
  replace Z0 := Nat.le_trans Z0 (Keep.of_wr W162).1
  have V_b153 : Arv Z h162 b153 k153 .int (4 : Int32) [(.int ((1 : Int32) <<< ((0 : Int32) &&& 31))), (.int ((1 : Int32) <<< ((1 : Int32) &&& 31))), (.int ((1 : Int32) <<< ((2 : Int32) &&& 31))), (.int ((1 : Int32) <<< ((3 : Int32) &&& 31)))] (.int (0 : Int32)) := Arv.set Ar162 q162 S162 N162 Hh162 G162 rfl W162 3 rfl (Nat.le_of_ble_eq_true rfl)
  clear Hh162 G162 N162 S162 q162 W162
  clear Ar162
  clear cl162
  replace NF := Fr.snoc X162 NF g_b153
  refine Gl.go ?_ st162
  clear st162 X161 e161
  show Gl _ _ _ _ (T162.setTop (mkF m 29 #[.val (.ref a), .val (.ref ns), .val (.int (3 : Int32))] []))
  refine Gl.go ?_ (fun t k => XS.iinc X162.here hx rfl (hb hby d2_29) rfl (l' := #[.val (.ref a), .val (.ref ns), .val (.int (4 : Int32))]) rfl k)
  show Gl _ _ _ _ (T162.setTop (mkF m 32 _ []))
  refine Gl.go ?_ (fun t k => XS.goto X162.here hx rfl (pc0 := 32) (pc' := 14) rfl (hb hby d2_32) (by decide) (by decide) k)
  show Gl _ _ _ _ (T162.setTop (mkF m 14 _ []))
  refine Gl.go ?_ (fun t k => XS.iloadN X162.here hx rfl (hb hby d2_14) rfl k)
  show Gl _ _ _ _ (T162.setTop (mkF m 15 _ [(.int (4 : Int32))]))
  refine Gl.go ?_ (fun t k => XS.aloadN X162.here hx rfl (hb hby d2_15) rfl rfl k)
  show Gl _ _ _ _ (T162.setTop (mkF m 16 #[.val (.ref a), .val (.ref ns), .val (.int (4 : Int32))] [(.ref ns), (.int (4 : Int32))]))
  refine Gl.go ?_ (RA.len hNS X162 hx hZ e162 (g := (mkF m 16 #[.val (.ref a), .val (.ref ns), .val (.int (4 : Int32))] [(.ref ns), (.int (4 : Int32))])) rfl rfl (hb hby d2_16))
  show Gl _ _ _ _ (T162.setTop (mkF m 17 _ [(.int (4 : Int32)), (.int (4 : Int32))]))
  refine Gl.go ?_ (fun t k => XS.icmpYes X162.here hx rfl (pc0 := 17) (pc' := 35) rfl (hb hby d2_17) rfl (flt (by decide : ¬ ((4 : Int32) < (4 : Int32)))).2.1 (by decide) (by decide) k)
  show Gl _ _ _ _ (T162.setTop (mkF m 35 _ []))
  obtain ⟨fs, hr, hrun, hended, hW, hsame⟩ := X162.leave (v := none) (fun _ => rfl) (BodyLoose.notSynchronized Bd)
  exact Gl.mk ⟨_, _, X162.returnOut hx Bd.returns (hb hby d2_35) hr, hrun, hended, _, _, rfl, own_cast (P := fun H v L => QA1 Z a 4 A h0 n0 v H L) e162 ⟨NF, ⟨rfl, KP, E_a, _, b153, F_names_a, F_implied_a, LK152.lk, own_ia [((1 : Int32) <<< ((0 : Int32) &&& 31)), ((1 : Int32) <<< ((1 : Int32) &&& 31)), ((1 : Int32) <<< ((2 : Int32) &&& 31)), ((1 : Int32) <<< ((3 : Int32) &&& 31))] (own_bits 4) V_b153 EI_b153 (by decide) (by decide)⟩⟩, ⟨_, rfl⟩, hW, hsame.mono (by decide) (by decide)⟩
theorem ef_rm_ai1_5 (m : MethodId) (x0 : Addr) (x1 : Addr) : entryFrame m #[(.ref x0), (.ref x1)] 3 = mkF m 0 #[.val (.ref x0), .val (.ref x1), .unset] [] := by first | (simp [entryFrame, mkF, argsToLocals, Value.category]; done) | rfl
set_option maxRecDepth 65536 in
set_option maxHeartbeats 40000000 in
theorem rm_ai1_5 (l : Launch) (Z : State) (a0 : Array Value) (hw : ∀ d ∈ tables_1, d.before a0 Z = true) (ws : List Jvm.Cond) (a : Addr) (ns : Addr) (A : Nat → Addr) (em el : Addr) (u_names u_implied : Value) (h0 : Heap) (n0 : Nat) (Z0 : n0 ≤ h0.size) (E_a : Exa Z h0 a "com/example/grantline/grantline/engine/Actions") (g_a : n0 ≤ a) (F_names_a : Fld Z h0 a "com/example/grantline/grantline/engine/Actions" "names" "Ljava/util/List;" u_names) (F_implied_a : Fld Z h0 a "com/example/grantline/grantline/engine/Actions" "implied" "[I" u_implied) (hna : ns ≠ a) (hNS : RA Z h0 ns (.object "java/lang/String") (5 : Int32) A) (hE : ∀ i, i < 5 → Exa Z h0 (A i) "java/lang/String") (S_EM : Sta Z h0 "java/util/ImmutableCollections" "EMPTY" "Ljava/lang/Object;" (.ref em)) (S_EL : Sta Z h0 "java/util/ImmutableCollections" "EMPTY_LIST" "Ljava/util/ImmutableCollections$ListN;" (.ref el)) :
    MetFree l (⟨"com/example/grantline/grantline/engine/Actions", "<init>", "([Ljava/lang/String;)V"⟩ : MethodName) (head1 (Jvm.Cond.code (⟨"com/example/grantline/grantline/engine/Actions", "<init>", "([Ljava/lang/String;)V"⟩ : MethodName) prog_18_method_1_code 3 none :: ws) ({ frames := 7, cells := 3, slots := 12, locals := 91 } : Room)) (fun aQ U => aQ = #[(.ref a), (.ref ns)] ∧ Z.Warmed39 U.vm ∧ U.heap = h0) (fun _ _ _ _ _ => True) (fun _ U o U' => ∃ vQ LQ, o = .returned vQ ∧ QA1 Z a 5 A h0 n0 vQ U'.heap LQ ∧ FrameEnd U o U' LQ ({ frames := 7, cells := 3, slots := 12, locals := 91 } : Room).cells ({ frames := 7, cells := 3, slots := 12, locals := 91 } : Room).slots) := by
  refine MetFree.of_bodySF (plainFor_of_name pn_2) hisR ?_
  intro p e s m args below meth c s₁ Bd hml0 hP hK
  obtain ⟨rfl, hZ, hh⟩ := hP
  have hx := Bd.exec
  have hby := Bd.bytes
  have hml : c.maxLocals = 3 := hml0
  have hown : s.vm.findClass "com/example/grantline/grantline/engine/Actions" = some m.cls := findClass_of_methodNamed Bd.named
  have hnm := (name_of_methodNamed Bd.named Bd.method).1
  have X0 : Stand p l e ({ frames := 7, cells := 3, slots := 12, locals := 91 } : Room) s m #[(.ref a), (.ref ns)] below meth c s₁ [] 0 0 := Stand.of_body Bd
  have e0 : s₁.heap = h0 := by rw [← hh, Bd.state]; rfl
  have NF := Fr.nil n0
  have KP : Keep h0 h0 [a] := Keep.refl h0 [a]
  have ha0 := E_a.lt
  refine Gl.out ?_
  refine Gl.go ?_ (fun t k => castTop (ef_rm_ai1_5 m a ns) k)
  show Gl _ _ _ _ (s₁.setTop (mkF m 0 _ []))
  refine Gl.go ?_ (fun t k => XS.aloadN X0.here hx rfl (hb hby d2_0) rfl rfl k)
  show Gl _ _ _ _ (s₁.setTop (mkF m 1 _ [(.ref a)]))
  refine Gl.go ?_ (fun t k => XS.aloadN X0.here hx rfl (hb hby d2_1) rfl rfl k)
  show Gl _ _ _ _ (s₁.setTop (mkF m 2 #[.val (.ref a), .val (.ref ns), .unset] [(.ref ns), (.ref a)]))
  obtain ⟨_, _, ⟨T163, L163, k163, n163⟩, -, X163, ⟨Lc163, hQ163, l163, y163, z163⟩, st163⟩ := Jvm.LawKit.callS X0 hx (y := (⟨"java/util/List", "of", "([Ljava/lang/Object;)Ljava/util/List;"⟩ : MethodName)) hown (mvT hZ (hw _ (List.mem_of_getElem? (i := 23) rfl))) (mvT hZ (hw _ (List.mem_of_getElem? (i := 24) rfl))) (mvT hZ (hw _ (List.mem_of_getElem? (i := 25) rfl))) (mvT hZ (hw _ (List.mem_of_getElem? (i := 26) rfl))) (by decide) (backOf (W := 1) (rm_lof_5 l Z a0 hw [] ns A em el h0 n0 Z0 hNS hE S_EM S_EL) hZ (hw _ (List.mem_of_getElem? (i := 26) rfl)) (hw _ (List.mem_of_getElem? (i := 25) rfl)) (by decide) (by decide)) (g := (mkF m 2 #[.val (.ref a), .val (.ref ns), .unset] [(.ref ns), (.ref a)])) rfl (by rw [hml]; rfl) (argsL := [(.ref ns)]) (rest := [(.ref a)]) (lenOf pd_9 rfl) rfl (by show 2 * 0 + _ ≤ _; exact Nat.le_of_eq rfl) (hb hby d2_2) (fun _ _ => ⟨rfl, e0, (by decide : 0 + 2 ≤ _), (by decide : 0 + 7 ≤ _)⟩)
  dsimp only [Pt.U, Pt.locs, Pt.cells, Pt.slots] at X163 l163 y163 z163 st163 hQ163
  rw [l163, y163, z163] at X163
  clear l163 y163 z163
  obtain ⟨N163q, ls163, rfl, EX163, LK163⟩ := hQ163
  replace NF := Fr.app NF N163q
  replace KP := KP.ext EX163
  replace E_a := E_a.ext EX163
  replace hNS := hNS.ext EX163
  replace F_names_a := F_names_a.ext EX163
  replace F_implied_a := F_implied_a.ext EX163
  replace Z0 := Nat.le_trans Z0 EX163.1
  have HI := Nat.le_refl T163.heap.size
  refine Gl.go ?_ st163
  show Gl _ _ _ _ (T163.setTop (mkF m 5 _ [(.ref ls163), (.ref a)]))
  refine Gl.go ?_ (fun t k => XS.aloadN X163.here hx rfl (hb hby d2_5) rfl rfl k)
  show Gl _ _ _ _ (T163.setTop (mkF m 6 #[.val (.ref a), .val (.ref ns), .unset] [(.ref ns), (.ref ls163), (.ref a)]))
  refine Gl.go ?_ (RA.len hNS X163 hx hZ rfl (g := (mkF m 6 #[.val (.ref a), .val (.ref ns), .unset] [(.ref ns), (.ref ls163), (.ref a)])) rfl rfl (hb hby d2_6))
  show Gl _ _ _ _ (T163.setTop (mkF m 7 #[.val (.ref a), .val (.ref ns), .unset] [(.int (5 : Int32)), (.ref ls163), (.ref a)]))
  obtain ⟨T164, h164, k164, X164, e164, E164, A164, B164, st164⟩ := newPE X163 hx hZ (hw _ (List.mem_of_getElem? (i := 70) rfl)) rfl (g := (mkF m 7 #[.val (.ref a), .val (.ref ns), .unset] [(.int (5 : Int32)), (.ref ls163), (.ref a)])) rfl (hb hby d2_7) rfl (by decide) (cap := 5) (by decide) (by decide) (by decide) (by decide) (ad := "[I") (by decide)
  obtain ⟨b164, g164⟩ : ∃ z, z = T163.heap.size := ⟨_, rfl⟩
  rw [← g164] at A164 B164 st164
  have g_b164 : n0 ≤ b164 := Nat.le_trans Z0 (Nat.le_of_eq g164.symm)
  have ne_a_b164 : a ≠ b164 := Nat.ne_of_lt (Nat.lt_of_lt_of_le E_a.lt (Nat.le_of_eq g164.symm))
  have ne_ns_b164 : ns ≠ b164 := Nat.ne_of_lt (Nat.lt_of_lt_of_le hNS.lt (Nat.le_of_eq g164.symm))
  have sz_b164 : (h0).size ≤ b164 := Nat.le_trans KP.1 (Nat.le_of_eq g164.symm)
  have hi_b164 := Nat.le_trans HI (Nat.le_of_eq g164.symm)
  replace KP := KP.ext E164
  replace LK163 := LK163.ext E164
  replace HI := Nat.le_trans HI E164.1
  replace E_a := E_a.ext E164
  replace hNS := hNS.ext E164
  replace F_names_a := F_names_a.ext E164
  replace F_implied_a := F_implied_a.ext E164
  replace Z0 := Nat.le_trans Z0 E164.1
  have V_b164 : Arv Z h164 b164 k164 .int (5 : Int32) [(.int (0 : Int32)), (.int (0 : Int32)), (.int (0 : Int32)), (.int (0 : Int32)), (.int (0 : Int32))] (.int (0 : Int32)) := (Arv.new A164 (by decide)).pad (pad_rep [] (.int (0 : Int32)) 5)
  have EI_b164 := B164
  refine Gl.go ?_ st164
  show Gl _ _ _ _ (T164.setTop (mkF m 9 #[.val (.ref a), .val (.ref ns), .unset] [(.ref b164), (.ref ls163), (.ref a)]))
  obtain ⟨_, _, ⟨T165, L165, k165, n165⟩, -, X165, ⟨Lc165, hQ165, l165, y165, z165⟩, st165⟩ := X164.specialBack hx (y := (⟨"com/example/grantline/grantline/engine/Actions", "<init>", "(Ljava/util/List;[I)V"⟩ : MethodName)) rfl hown (mvT hZ (hw _ (List.mem_of_getElem? (i := 71) rfl))) (mvT hZ (hw _ (List.mem_of_getElem? (i := 72) rfl))) (mvT hZ (hw _ (List.mem_of_getElem? (i := 73) rfl))) (by decide) (backOf (W := 0) (rm11 l Z a0 hw [] a ls163 b164  _ _ h164 n0 Z0 E_a g_a F_names_a F_implied_a ) hZ (hw _ (List.mem_of_getElem? (i := 73) rfl)) (hw _ (List.mem_of_getElem? (i := 19) rfl)) (by decide) (by decide)) (g := (mkF m 9 #[.val (.ref a), .val (.ref ns), .unset] [(.ref b164), (.ref ls163), (.ref a)])) rfl (by rw [hml]; rfl) (Steps.refl _) (a := a) (argsL := [(.ref ls163), (.ref b164)]) (rest := []) (lenOf pd_10 rfl) rfl (by show 2 * 0 + _ ≤ _; exact Nat.le_of_eq rfl) (hb hby d2_9) (fun _ _ => ⟨rfl, e164, (by decide : 3 + 0 ≤ _), (by decide : 12 + 0 ≤ _)⟩)
  dsimp only [Pt.U, Pt.locs, Pt.cells, Pt.slots] at X165 l165 y165 z165 st165 hQ165
  rw [l165, y165, z165] at X165
  clear l165 y165 z165
  obtain ⟨N165q, rfl, K165, ec165, f165_names, f165_implied⟩ := hQ165
  replace NF := Fr.app NF N165q
  replace KP := KP.trans K165 (fun y hy => Or.inl hy)
  replace LK163 := LK163.keep K165 (Or.inl ha0)
  replace HI := Nat.le_trans HI K165.1
  replace hNS := hNS.keep K165 (ninS hna nin0)
  replace V_b164 := V_b164.keep K165 (ninS (Ne.symm ne_a_b164) nin0)
  replace EI_b164 := EI_b164.keep K165
  replace Z0 := Nat.le_trans Z0 K165.1
  replace E_a := ec165
  replace F_names_a := f165_names
  replace F_implied_a := f165_implied
  refine Gl.tr ?_ st165
  show Gl _ _ _ _ (T165.setTop (mkF m 12 _ []))
  refine Gl.go ?_ (fun t k => XS.iconst X165.here hx rfl (hb hby d2_12) k)
  show Gl _ _ _ _ (T165.setTop (mkF m 13 #[.val (.ref a), .val (.ref ns), .unset] [(.int (0 : Int32))]))
  refine Gl.go ?_ (fun t k => XS.istoreN X165.here hx rfl (hb hby d2_13) rfl (l' := #[.val (.ref a), .val (.ref ns), .val (.int (0 : Int32))]) rfl k)
  show Gl _ _ _ _ (T165.setTop (mkF m 14 _ []))
  refine Gl.go ?_ (fun t k => XS.iloadN X165.here hx rfl (hb hby d2_14) rfl k)
  show Gl _ _ _ _ (T165.setTop (mkF m 15 _ [(.int (0 : Int32))]))
  refine Gl.go ?_ (fun t k => XS.aloadN X165.here hx rfl (hb hby d2_15) rfl rfl k)
  show Gl _ _ _ _ (T165.setTop (mkF m 16 #[.val (.ref a), .val (.ref ns), .val (.int (0 : Int32))] [(.ref ns), (.int (0 : Int32))]))
  refine Gl.go ?_ (RA.len hNS X165 hx hZ rfl (g := (mkF m 16 #[.val (.ref a), .val (.ref ns), .val (.int (0 : Int32))] [(.ref ns), (.int (0 : Int32))])) rfl rfl (hb hby d2_16))
  show Gl _ _ _ _ (T165.setTop (mkF m 17 _ [(.int (5 : Int32)), (.int (0 : Int32))]))
  refine Gl.go ?_ (fun t k => XS.icmpNo X165.here hx rfl (hb hby d2_17) rfl (tlt (by decide : (0 : Int32) < (5 : Int32))).2.1 k)
  show Gl _ _ _ _ (T165.setTop (mkF m 20 _ []))
  refine Gl.go ?_ (fun t k => XS.aloadN X165.here hx rfl (hb hby d2_20) rfl rfl k)
  show Gl _ _ _ _ (T165.setTop (mkF m 21 #[.val (.ref a), .val (.ref ns), .val (.int (0 : Int32))] [(.ref a)]))
  obtain ⟨T166, X166, e166, st166⟩ := getF X165 hx hZ hown (host := "") (Or.inl (hw _ (List.mem_of_getElem? (i := 77) rfl))) Via.refl rfl F_implied_a (g := (mkF m 21 #[.val (.ref a), .val (.ref ns), .val (.int (0 : Int32))] [(.ref a)])) rfl rfl (hb hby d2_21)
  refine Gl.go ?_ st166
  show Gl _ _ _ _ (T166.setTop (mkF m 24 _ [(.ref b164)]))
  refine Gl.go ?_ (fun t k => XS.iloadN X166.here hx rfl (hb hby d2_24) rfl k)
  show Gl _ _ _ _ (T166.setTop (mkF m 25 _ [(.int (0 : Int32)), (.ref b164)]))
  refine Gl.go ?_ (fun t k => XS.iconst X166.here hx rfl (hb hby d2_25) k)
  show Gl _ _ _ _ (T166.setTop (mkF m 26 _ [(.int (1 : Int32)), (.int (0 : Int32)), (.ref b164)]))
  refine Gl.go ?_ (fun t k => XS.iloadN X166.here hx rfl (hb hby d2_26) rfl k)
  show Gl _ _ _ _ (T166.setTop (mkF m 27 _ [(.int (0 : Int32)), (.int (1 : Int32)), (.int (0 : Int32)), (.ref b164)]))
  refine Gl.go ?_ (fun t k => XS.ishl X166.here hx rfl (hb hby d2_27) rfl k)
  show Gl _ _ _ _ (T166.setTop (mkF m 28 #[.val (.ref a), .val (.ref ns), .val (.int (0 : Int32))] [(.int ((1 : Int32) <<< ((0 : Int32) &&& 31))), (.int (0 : Int32)), (.ref b164)]))
  obtain ⟨cl167, Ar167, q167, S167, N167, Hh167, G167⟩ := V_b164
  obtain ⟨T167, h167, X167, e167, W167, st167⟩ := stI X166 hx hZ e166 Ar167 (j := (0 : Int32)) (inb_of S167 ⟨by decide, by decide⟩) (g := (mkF m 28 #[.val (.ref a), .val (.ref ns), .val (.int (0 : Int32))] [(.int ((1 : Int32) <<< ((0 : Int32) &&& 31))), (.int (0 : Int32)), (.ref b164)])) rfl rfl (hb hby d2_28)
  replace KP := KP.wr W167 (Or.inr sz_b164)
  replace LK163 := LK163.keep (Keep.of_wr W167) (Or.inr hi_b164)
  replace HI := Nat.le_trans HI (Keep.of_wr W167).1
  replace hNS := hNS.other W167 ne_ns_b164
  replace EI_b164 := EI_b164.wr W167
  replace E_a := E_a.wr W167
  replace F_names_a := F_names_a.other W167 (Or.inl ne_a_b164)
  replace F_implied_a := F_implied_a.other W167 (Or.inl ne_a_b164)
  replace Z0 := Nat.le_trans Z0 (Keep.of_wr W167).1
  have V_b164 : Arv Z h167 b164 k164 .int (5 : Int32) [(.int ((1 : Int32) <<< ((0 : Int32) &&& 31))), (.int (0 : Int32)), (.int (0 : Int32)), (.int (0 : Int32)), (.int (0 : Int32))] (.int (0 : Int32)) := Arv.set Ar167 q167 S167 N167 Hh167 G167 rfl W167 0 rfl (Nat.le_of_ble_eq_true rfl)
  clear Hh167 G167 N167 S167 q167 W167
  clear Ar167
  clear cl167
  replace NF := Fr.snoc X167 NF g_b164
  refine Gl.go ?_ st167
  clear st167 X166 e166
  show Gl _ _ _ _ (T167.setTop (mkF m 29 #[.val (.ref a), .val (.ref ns), .val (.int (0 : Int32))] []))
  refine Gl.go ?_ (fun t k => XS.iinc X167.here hx rfl (hb hby d2_29) rfl (l' := #[.val (.ref a), .val (.ref ns), .val (.int (1 : Int32))]) rfl k)
  show Gl _ _ _ _ (T167.setTop (mkF m 32 _ []))
  refine Gl.go ?_ (fun t k => XS.goto X167.here hx rfl (pc0 := 32) (pc' := 14) rfl (hb hby d2_32) (by decide) (by decide) k)
  show Gl _ _ _ _ (T167.setTop (mkF m 14 _ []))
  refine Gl.go ?_ (fun t k => XS.iloadN X167.here hx rfl (hb hby d2_14) rfl k)
  show Gl _ _ _ _ (T167.setTop (mkF m 15 _ [(.int (1 : Int32))]))
  refine Gl.go ?_ (fun t k => XS.aloadN X167.here hx rfl (hb hby d2_15) rfl rfl k)
  show Gl _ _ _ _ (T167.setTop (mkF m 16 #[.val (.ref a), .val (.ref ns), .val (.int (1 : Int32))] [(.ref ns), (.int (1 : Int32))]))
  refine Gl.go ?_ (RA.len hNS X167 hx hZ e167 (g := (mkF m 16 #[.val (.ref a), .val (.ref ns), .val (.int (1 : Int32))] [(.ref ns), (.int (1 : Int32))])) rfl rfl (hb hby d2_16))
  show Gl _ _ _ _ (T167.setTop (mkF m 17 _ [(.int (5 : Int32)), (.int (1 : Int32))]))
  refine Gl.go ?_ (fun t k => XS.icmpNo X167.here hx rfl (hb hby d2_17) rfl (tlt (by decide : (1 : Int32) < (5 : Int32))).2.1 k)
  show Gl _ _ _ _ (T167.setTop (mkF m 20 _ []))
  refine Gl.go ?_ (fun t k => XS.aloadN X167.here hx rfl (hb hby d2_20) rfl rfl k)
  show Gl _ _ _ _ (T167.setTop (mkF m 21 #[.val (.ref a), .val (.ref ns), .val (.int (1 : Int32))] [(.ref a)]))
  obtain ⟨T168, X168, e168, st168⟩ := getF X167 hx hZ hown (host := "") (Or.inl (hw _ (List.mem_of_getElem? (i := 77) rfl))) Via.refl e167 F_implied_a (g := (mkF m 21 #[.val (.ref a), .val (.ref ns), .val (.int (1 : Int32))] [(.ref a)])) rfl rfl (hb hby d2_21)
  refine Gl.go ?_ st168
  show Gl _ _ _ _ (T168.setTop (mkF m 24 _ [(.ref b164)]))
  refine Gl.go ?_ (fun t k => XS.iloadN X168.here hx rfl (hb hby d2_24) rfl k)
  show Gl _ _ _ _ (T168.setTop (mkF m 25 _ [(.int (1 : Int32)), (.ref b164)]))
  refine Gl.go ?_ (fun t k => XS.iconst X168.here hx rfl (hb hby d2_25) k)
  show Gl _ _ _ _ (T168.setTop (mkF m 26 _ [(.int (1 : Int32)), (.int (1 : Int32)), (.ref b164)]))
  refine Gl.go ?_ (fun t k => XS.iloadN X168.here hx rfl (hb hby d2_26) rfl k)
  show Gl _ _ _ _ (T168.setTop (mkF m 27 _ [(.int (1 : Int32)), (.int (1 : Int32)), (.int (1 : Int32)), (.ref b164)]))
  refine Gl.go ?_ (fun t k => XS.ishl X168.here hx rfl (hb hby d2_27) rfl k)
  show Gl _ _ _ _ (T168.setTop (mkF m 28 #[.val (.ref a), .val (.ref ns), .val (.int (1 : Int32))] [(.int ((1 : Int32) <<< ((1 : Int32) &&& 31))), (.int (1 : Int32)), (.ref b164)]))
  obtain ⟨cl169, Ar169, q169, S169, N169, Hh169, G169⟩ := V_b164
  obtain ⟨T169, h169, X169, e169, W169, st169⟩ := stI X168 hx hZ e168 Ar169 (j := (1 : Int32)) (inb_of S169 ⟨by decide, by decide⟩) (g := (mkF m 28 #[.val (.ref a), .val (.ref ns), .val (.int (1 : Int32))] [(.int ((1 : Int32) <<< ((1 : Int32) &&& 31))), (.int (1 : Int32)), (.ref b164)])) rfl rfl (hb hby d2_28)
  replace KP := KP.wr W169 (Or.inr sz_b164)
  replace LK163 := LK163.keep (Keep.of_wr W169) (Or.inr hi_b164)
  replace HI := Nat.le_trans HI (Keep.of_wr W169).1
  replace hNS := hNS.other W169 ne_ns_b164
  replace EI_b164 := EI_b164.wr W169
  replace E_a := E_a.wr W169
  replace F_names_a := F_names_a.other W169 (Or.inl ne_a_b164)
  replace F_implied_a := F_implied_a.other W169 (Or.inl ne_a_b164)
  replace Z0 := Nat.le_trans Z0 (Keep.of_wr W169).1
  have V_b164 : Arv Z h169 b164 k164 .int (5 : Int32) [(.int ((1 : Int32) <<< ((0 : Int32) &&& 31))), (.int ((1 : Int32) <<< ((1 : Int32) &&& 31))), (.int (0 : Int32)), (.int (0 : Int32)), (.int (0 : Int32))] (.int (0 : Int32)) := Arv.set Ar169 q169 S169 N169 Hh169 G169 rfl W169 1 rfl (Nat.le_of_ble_eq_true rfl)
  clear Hh169 G169 N169 S169 q169 W169
  clear Ar169
  clear cl169
  replace NF := Fr.snoc X169 NF g_b164
  refine Gl.go ?_ st169
  clear st169 X168 e168
  show Gl _ _ _ _ (T169.setTop (mkF m 29 #[.val (.ref a), .val (.ref ns), .val (.int (1 : Int32))] []))
  refine Gl.go ?_ (fun t k => XS.iinc X169.here hx rfl (hb hby d2_29) rfl (l' := #[.val (.ref a), .val (.ref ns), .val (.int (2 : Int32))]) rfl k)
  show Gl _ _ _ _ (T169.setTop (mkF m 32 _ []))
  refine Gl.go ?_ (fun t k => XS.goto X169.here hx rfl (pc0 := 32) (pc' := 14) rfl (hb hby d2_32) (by decide) (by decide) k)
  show Gl _ _ _ _ (T169.setTop (mkF m 14 _ []))
  refine Gl.go ?_ (fun t k => XS.iloadN X169.here hx rfl (hb hby d2_14) rfl k)
  show Gl _ _ _ _ (T169.setTop (mkF m 15 _ [(.int (2 : Int32))]))
  refine Gl.go ?_ (fun t k => XS.aloadN X169.here hx rfl (hb hby d2_15) rfl rfl k)
  show Gl _ _ _ _ (T169.setTop (mkF m 16 #[.val (.ref a), .val (.ref ns), .val (.int (2 : Int32))] [(.ref ns), (.int (2 : Int32))]))
  refine Gl.go ?_ (RA.len hNS X169 hx hZ e169 (g := (mkF m 16 #[.val (.ref a), .val (.ref ns), .val (.int (2 : Int32))] [(.ref ns), (.int (2 : Int32))])) rfl rfl (hb hby d2_16))
  show Gl _ _ _ _ (T169.setTop (mkF m 17 _ [(.int (5 : Int32)), (.int (2 : Int32))]))
  refine Gl.go ?_ (fun t k => XS.icmpNo X169.here hx rfl (hb hby d2_17) rfl (tlt (by decide : (2 : Int32) < (5 : Int32))).2.1 k)
  show Gl _ _ _ _ (T169.setTop (mkF m 20 _ []))
  refine Gl.go ?_ (fun t k => XS.aloadN X169.here hx rfl (hb hby d2_20) rfl rfl k)
  show Gl _ _ _ _ (T169.setTop (mkF m 21 #[.val (.ref a), .val (.ref ns), .val (.int (2 : Int32))] [(.ref a)]))
  obtain ⟨T170, X170, e170, st170⟩ := getF X169 hx hZ hown (host := "") (Or.inl (hw _ (List.mem_of_getElem? (i := 77) rfl))) Via.refl e169 F_implied_a (g := (mkF m 21 #[.val (.ref a), .val (.ref ns), .val (.int (2 : Int32))] [(.ref a)])) rfl rfl (hb hby d2_21)
  refine Gl.go ?_ st170
  show Gl _ _ _ _ (T170.setTop (mkF m 24 _ [(.ref b164)]))
  refine Gl.go ?_ (fun t k => XS.iloadN X170.here hx rfl (hb hby d2_24) rfl k)
  show Gl _ _ _ _ (T170.setTop (mkF m 25 _ [(.int (2 : Int32)), (.ref b164)]))
  refine Gl.go ?_ (fun t k => XS.iconst X170.here hx rfl (hb hby d2_25) k)
  show Gl _ _ _ _ (T170.setTop (mkF m 26 _ [(.int (1 : Int32)), (.int (2 : Int32)), (.ref b164)]))
  refine Gl.go ?_ (fun t k => XS.iloadN X170.here hx rfl (hb hby d2_26) rfl k)
  show Gl _ _ _ _ (T170.setTop (mkF m 27 _ [(.int (2 : Int32)), (.int (1 : Int32)), (.int (2 : Int32)), (.ref b164)]))
  refine Gl.go ?_ (fun t k => XS.ishl X170.here hx rfl (hb hby d2_27) rfl k)
  show Gl _ _ _ _ (T170.setTop (mkF m 28 #[.val (.ref a), .val (.ref ns), .val (.int (2 : Int32))] [(.int ((1 : Int32) <<< ((2 : Int32) &&& 31))), (.int (2 : Int32)), (.ref b164)]))
  obtain ⟨cl171, Ar171, q171, S171, N171, Hh171, G171⟩ := V_b164
  obtain ⟨T171, h171, X171, e171, W171, st171⟩ := stI X170 hx hZ e170 Ar171 (j := (2 : Int32)) (inb_of S171 ⟨by decide, by decide⟩) (g := (mkF m 28 #[.val (.ref a), .val (.ref ns), .val (.int (2 : Int32))] [(.int ((1 : Int32) <<< ((2 : Int32) &&& 31))), (.int (2 : Int32)), (.ref b164)])) rfl rfl (hb hby d2_28)
  replace KP := KP.wr W171 (Or.inr sz_b164)
  replace LK163 := LK163.keep (Keep.of_wr W171) (Or.inr hi_b164)
  replace HI := Nat.le_trans HI (Keep.of_wr W171).1
  replace hNS := hNS.other W171 ne_ns_b164
  replace EI_b164 := EI_b164.wr W171
  replace E_a := E_a.wr W171
  replace F_names_a := F_names_a.other W171 (Or.inl ne_a_b164)
  replace F_implied_a := F_implied_a.other W171 (Or.inl ne_a_b164)
  replace Z0 := Nat.le_trans Z0 (Keep.of_wr W171).1
  have V_b164 : Arv Z h171 b164 k164 .int (5 : Int32) [(.int ((1 : Int32) <<< ((0 : Int32) &&& 31))), (.int ((1 : Int32) <<< ((1 : Int32) &&& 31))), (.int ((1 : Int32) <<< ((2 : Int32) &&& 31))), (.int (0 : Int32)), (.int (0 : Int32))] (.int (0 : Int32)) := Arv.set Ar171 q171 S171 N171 Hh171 G171 rfl W171 2 rfl (Nat.le_of_ble_eq_true rfl)
  clear Hh171 G171 N171 S171 q171 W171
  clear Ar171
  clear cl171
  replace NF := Fr.snoc X171 NF g_b164
  refine Gl.go ?_ st171
  clear st171 X170 e170
  show Gl _ _ _ _ (T171.setTop (mkF m 29 #[.val (.ref a), .val (.ref ns), .val (.int (2 : Int32))] []))
  refine Gl.go ?_ (fun t k => XS.iinc X171.here hx rfl (hb hby d2_29) rfl (l' := #[.val (.ref a), .val (.ref ns), .val (.int (3 : Int32))]) rfl k)
  show Gl _ _ _ _ (T171.setTop (mkF m 32 _ []))
  refine Gl.go ?_ (fun t k => XS.goto X171.here hx rfl (pc0 := 32) (pc' := 14) rfl (hb hby d2_32) (by decide) (by decide) k)
  show Gl _ _ _ _ (T171.setTop (mkF m 14 _ []))
  refine Gl.go ?_ (fun t k => XS.iloadN X171.here hx rfl (hb hby d2_14) rfl k)
  show Gl _ _ _ _ (T171.setTop (mkF m 15 _ [(.int (3 : Int32))]))
  refine Gl.go ?_ (fun t k => XS.aloadN X171.here hx rfl (hb hby d2_15) rfl rfl k)
  show Gl _ _ _ _ (T171.setTop (mkF m 16 #[.val (.ref a), .val (.ref ns), .val (.int (3 : Int32))] [(.ref ns), (.int (3 : Int32))]))
  refine Gl.go ?_ (RA.len hNS X171 hx hZ e171 (g := (mkF m 16 #[.val (.ref a), .val (.ref ns), .val (.int (3 : Int32))] [(.ref ns), (.int (3 : Int32))])) rfl rfl (hb hby d2_16))
  show Gl _ _ _ _ (T171.setTop (mkF m 17 _ [(.int (5 : Int32)), (.int (3 : Int32))]))
  refine Gl.go ?_ (fun t k => XS.icmpNo X171.here hx rfl (hb hby d2_17) rfl (tlt (by decide : (3 : Int32) < (5 : Int32))).2.1 k)
  show Gl _ _ _ _ (T171.setTop (mkF m 20 _ []))
  refine Gl.go ?_ (fun t k => XS.aloadN X171.here hx rfl (hb hby d2_20) rfl rfl k)
  show Gl _ _ _ _ (T171.setTop (mkF m 21 #[.val (.ref a), .val (.ref ns), .val (.int (3 : Int32))] [(.ref a)]))
  obtain ⟨T172, X172, e172, st172⟩ := getF X171 hx hZ hown (host := "") (Or.inl (hw _ (List.mem_of_getElem? (i := 77) rfl))) Via.refl e171 F_implied_a (g := (mkF m 21 #[.val (.ref a), .val (.ref ns), .val (.int (3 : Int32))] [(.ref a)])) rfl rfl (hb hby d2_21)
  refine Gl.go ?_ st172
  show Gl _ _ _ _ (T172.setTop (mkF m 24 _ [(.ref b164)]))
  refine Gl.go ?_ (fun t k => XS.iloadN X172.here hx rfl (hb hby d2_24) rfl k)
  show Gl _ _ _ _ (T172.setTop (mkF m 25 _ [(.int (3 : Int32)), (.ref b164)]))
  refine Gl.go ?_ (fun t k => XS.iconst X172.here hx rfl (hb hby d2_25) k)
  show Gl _ _ _ _ (T172.setTop (mkF m 26 _ [(.int (1 : Int32)), (.int (3 : Int32)), (.ref b164)]))
  refine Gl.go ?_ (fun t k => XS.iloadN X172.here hx rfl (hb hby d2_26) rfl k)
  show Gl _ _ _ _ (T172.setTop (mkF m 27 _ [(.int (3 : Int32)), (.int (1 : Int32)), (.int (3 : Int32)), (.ref b164)]))
  refine Gl.go ?_ (fun t k => XS.ishl X172.here hx rfl (hb hby d2_27) rfl k)
  show Gl _ _ _ _ (T172.setTop (mkF m 28 #[.val (.ref a), .val (.ref ns), .val (.int (3 : Int32))] [(.int ((1 : Int32) <<< ((3 : Int32) &&& 31))), (.int (3 : Int32)), (.ref b164)]))
  obtain ⟨cl173, Ar173, q173, S173, N173, Hh173, G173⟩ := V_b164
  obtain ⟨T173, h173, X173, e173, W173, st173⟩ := stI X172 hx hZ e172 Ar173 (j := (3 : Int32)) (inb_of S173 ⟨by decide, by decide⟩) (g := (mkF m 28 #[.val (.ref a), .val (.ref ns), .val (.int (3 : Int32))] [(.int ((1 : Int32) <<< ((3 : Int32) &&& 31))), (.int (3 : Int32)), (.ref b164)])) rfl rfl (hb hby d2_28)
  replace KP := KP.wr W173 (Or.inr sz_b164)
  replace LK163 := LK163.keep (Keep.of_wr W173) (Or.inr hi_b164)
  replace HI := Nat.le_trans HI (Keep.of_wr W173).1
  replace hNS := hNS.other W173 ne_ns_b164
  replace EI_b164 := EI_b164.wr W173
  replace E_a := E_a.wr W173
  replace F_names_a := F_names_a.other W173 (Or.inl ne_a_b164)
  replace F_implied_a := F_implied_a.other W173 (Or.inl ne_a_b164)
  replace Z0 := Nat.le_trans Z0 (Keep.of_wr W173).1
  have V_b164 : Arv Z h173 b164 k164 .int (5 : Int32) [(.int ((1 : Int32) <<< ((0 : Int32) &&& 31))), (.int ((1 : Int32) <<< ((1 : Int32) &&& 31))), (.int ((1 : Int32) <<< ((2 : Int32) &&& 31))), (.int ((1 : Int32) <<< ((3 : Int32) &&& 31))), (.int (0 : Int32))] (.int (0 : Int32)) := Arv.set Ar173 q173 S173 N173 Hh173 G173 rfl W173 3 rfl (Nat.le_of_ble_eq_true rfl)
  clear Hh173 G173 N173 S173 q173 W173
  clear Ar173
  clear cl173
  replace NF := Fr.snoc X173 NF g_b164
  refine Gl.go ?_ st173
  clear st173 X172 e172
  show Gl _ _ _ _ (T173.setTop (mkF m 29 #[.val (.ref a), .val (.ref ns), .val (.int (3 : Int32))] []))
  refine Gl.go ?_ (fun t k => XS.iinc X173.here hx rfl (hb hby d2_29) rfl (l' := #[.val (.ref a), .val (.ref ns), .val (.int (4 : Int32))]) rfl k)
  show Gl _ _ _ _ (T173.setTop (mkF m 32 _ []))
  refine Gl.go ?_ (fun t k => XS.goto X173.here hx rfl (pc0 := 32) (pc' := 14) rfl (hb hby d2_32) (by decide) (by decide) k)
  show Gl _ _ _ _ (T173.setTop (mkF m 14 _ []))
  refine Gl.go ?_ (fun t k => XS.iloadN X173.here hx rfl (hb hby d2_14) rfl k)
  show Gl _ _ _ _ (T173.setTop (mkF m 15 _ [(.int (4 : Int32))]))
  refine Gl.go ?_ (fun t k => XS.aloadN X173.here hx rfl (hb hby d2_15) rfl rfl k)
  show Gl _ _ _ _ (T173.setTop (mkF m 16 #[.val (.ref a), .val (.ref ns), .val (.int (4 : Int32))] [(.ref ns), (.int (4 : Int32))]))
  refine Gl.go ?_ (RA.len hNS X173 hx hZ e173 (g := (mkF m 16 #[.val (.ref a), .val (.ref ns), .val (.int (4 : Int32))] [(.ref ns), (.int (4 : Int32))])) rfl rfl (hb hby d2_16))
  show Gl _ _ _ _ (T173.setTop (mkF m 17 _ [(.int (5 : Int32)), (.int (4 : Int32))]))
  refine Gl.go ?_ (fun t k => XS.icmpNo X173.here hx rfl (hb hby d2_17) rfl (tlt (by decide : (4 : Int32) < (5 : Int32))).2.1 k)
  show Gl _ _ _ _ (T173.setTop (mkF m 20 _ []))
  refine Gl.go ?_ (fun t k => XS.aloadN X173.here hx rfl (hb hby d2_20) rfl rfl k)
  show Gl _ _ _ _ (T173.setTop (mkF m 21 #[.val (.ref a), .val (.ref ns), .val (.int (4 : Int32))] [(.ref a)]))
  obtain ⟨T174, X174, e174, st174⟩ := getF X173 hx hZ hown (host := "") (Or.inl (hw _ (List.mem_of_getElem? (i := 77) rfl))) Via.refl e173 F_implied_a (g := (mkF m 21 #[.val (.ref a), .val (.ref ns), .val (.int (4 : Int32))] [(.ref a)])) rfl rfl (hb hby d2_21)
  refine Gl.go ?_ st174
  show Gl _ _ _ _ (T174.setTop (mkF m 24 _ [(.ref b164)]))
  refine Gl.go ?_ (fun t k => XS.iloadN X174.here hx rfl (hb hby d2_24) rfl k)
  show Gl _ _ _ _ (T174.setTop (mkF m 25 _ [(.int (4 : Int32)), (.ref b164)]))
  refine Gl.go ?_ (fun t k => XS.iconst X174.here hx rfl (hb hby d2_25) k)
  show Gl _ _ _ _ (T174.setTop (mkF m 26 _ [(.int (1 : Int32)), (.int (4 : Int32)), (.ref b164)]))
  refine Gl.go ?_ (fun t k => XS.iloadN X174.here hx rfl (hb hby d2_26) rfl k)
  show Gl _ _ _ _ (T174.setTop (mkF m 27 _ [(.int (4 : Int32)), (.int (1 : Int32)), (.int (4 : Int32)), (.ref b164)]))
  refine Gl.go ?_ (fun t k => XS.ishl X174.here hx rfl (hb hby d2_27) rfl k)
  show Gl _ _ _ _ (T174.setTop (mkF m 28 #[.val (.ref a), .val (.ref ns), .val (.int (4 : Int32))] [(.int ((1 : Int32) <<< ((4 : Int32) &&& 31))), (.int (4 : Int32)), (.ref b164)]))
  obtain ⟨cl175, Ar175, q175, S175, N175, Hh175, G175⟩ := V_b164
  obtain ⟨T175, h175, X175, e175, W175, st175⟩ := stI X174 hx hZ e174 Ar175 (j := (4 : Int32)) (inb_of S175 ⟨by decide, by decide⟩) (g := (mkF m 28 #[.val (.ref a), .val (.ref ns), .val (.int (4 : Int32))] [(.int ((1 : Int32) <<< ((4 : Int32) &&& 31))), (.int (4 : Int32)), (.ref b164)])) rfl rfl (hb hby d2_28)
  replace KP := KP.wr W175 (Or.inr sz_b164)
  replace LK163 := LK163.keep (Keep.of_wr W175) (Or.inr hi_b164)
  replace HI := Nat.le_trans HI (Keep.of_wr W175).1
  replace hNS := hNS.other W175 ne_ns_b164
  replace EI_b164 := EI_b164.wr W175
  replace E_a := E_a.wr W175
  replace F_names_a := F_names_a.other W175 (Or.inl ne_a_b164)
  replace F_implied_a := F_implied_a.other W175 (Or.inl ne_a_b164)
  replace Z0 := Nat.le_trans Z0 (Keep.of_wr W175).1
  have V_b164 : Arv Z h175 b164 k164 .int (5 : Int32) [(.int ((1 : Int32) <<< ((0 : Int32) &&& 31))), (.int ((1 : Int32) <<< ((1 : Int32) &&& 31))), (.int ((1 : Int32) <<< ((2 : Int32) &&& 31))), (.int ((1 : Int32) <<< ((3 : Int32) &&& 31))), (.int ((1 : Int32) <<< ((4 : Int32) &&& 31)))] (.int (0 : Int32)) := Arv.set Ar175 q175 S175 N175 Hh175 G175 rfl W175 4 rfl (Nat.le_of_ble_eq_true rfl)
  clear Hh175 G175 N175 S175 q175 W175
  clear Ar175
  clear cl175
  replace NF := Fr.snoc X175 NF g_b164
  refine Gl.go ?_ st175
  clear st175 X174 e174
  show Gl _ _ _ _ (T175.setTop (mkF m 29 #[.val (.ref a), .val (.ref ns), .val (.int (4 : Int32))] []))
  refine Gl.go ?_ (fun t k => XS.iinc X175.here hx rfl (hb hby d2_29) rfl (l' := #[.val (.ref a), .val (.ref ns), .val (.int (5 : Int32))]) rfl k)
  show Gl _ _ _ _ (T175.setTop (mkF m 32 _ []))
  refine Gl.go ?_ (fun t k => XS.goto X175.here hx rfl (pc0 := 32) (pc' := 14) rfl (hb hby d2_32) (by decide) (by decide) k)
  show Gl _ _ _ _ (T175.setTop (mkF m 14 _ []))
  refine Gl.go ?_ (fun t k => XS.iloadN X175.here hx rfl (hb hby d2_14) rfl k)
  show Gl _ _ _ _ (T175.setTop (mkF m 15 _ [(.int (5 : Int32))]))
  refine Gl.go ?_ (fun t k => XS.aloadN X175.here hx rfl (hb hby d2_15) rfl rfl k)
  show Gl _ _ _ _ (T175.setTop (mkF m 16 #[.val (.ref a), .val (.ref ns), .val (.int (5 : Int32))] [(.ref ns), (.int (5 : Int32))]))
  refine Gl.go ?_ (RA.len hNS X175 hx hZ e175 (g := (mkF m 16 #[.val (.ref a), .val (.ref ns), .val (.int (5 : Int32))] [(.ref ns), (.int (5 : Int32))])) rfl rfl (hb hby d2_16))
  show Gl _ _ _ _ (T175.setTop (mkF m 17 _ [(.int (5 : Int32)), (.int (5 : Int32))]))
  refine Gl.go ?_ (fun t k => XS.icmpYes X175.here hx rfl (pc0 := 17) (pc' := 35) rfl (hb hby d2_17) rfl (flt (by decide : ¬ ((5 : Int32) < (5 : Int32)))).2.1 (by decide) (by decide) k)
  show Gl _ _ _ _ (T175.setTop (mkF m 35 _ []))
  obtain ⟨fs, hr, hrun, hended, hW, hsame⟩ := X175.leave (v := none) (fun _ => rfl) (BodyLoose.notSynchronized Bd)
  exact Gl.mk ⟨_, _, X175.returnOut hx Bd.returns (hb hby d2_35) hr, hrun, hended, _, _, rfl, own_cast (P := fun H v L => QA1 Z a 5 A h0 n0 v H L) e175 ⟨NF, ⟨rfl, KP, E_a, _, b164, F_names_a, F_implied_a, LK163.lk, own_ia [((1 : Int32) <<< ((0 : Int32) &&& 31)), ((1 : Int32) <<< ((1 : Int32) &&& 31)), ((1 : Int32) <<< ((2 : Int32) &&& 31)), ((1 : Int32) <<< ((3 : Int32) &&& 31)), ((1 : Int32) <<< ((4 : Int32) &&& 31))] (own_bits 5) V_b164 EI_b164 (by decide) (by decide)⟩⟩, ⟨_, rfl⟩, hW, hsame.mono (by decide) (by decide)⟩
def own_upd (xs : List Int32) (x y : Nat) : List Int32 := xs.set y (((nth xs) (Int32.ofNat y)) ||| ((1 : Int32) <<< ((Int32.ofNat x) &&& 31)))
theorem own_lo {y n : Nat} (h : y < n) (hn : n ≤ 5) : ¬ Int32.ofNat y < 0 := by
  rw [Int32.lt_iff_toInt_lt, Int32.toInt_ofNat_of_lt (by omega)]; show ¬ (y : Int) < 0; omega
theorem own_hi {y n : Nat} (h : y < n) (hn : n ≤ 5) : Int32.ofNat y < Int32.ofNat n := by
  rw [Int32.lt_iff_toInt_lt, Int32.toInt_ofNat_of_lt (by omega), Int32.toInt_ofNat_of_lt (by omega)]; omega
theorem own_tn {y : Nat} (h : y ≤ 5) : (Int32.ofNat y).toNatClampNeg = y := by
  rw [Int32.toNatClampNeg, Int32.toInt_ofNat_of_lt (by omega)]; rfl
theorem own_iaset {Z : State} {h h' : Heap} {a : Addr} {k : ClassId} {n y : Nat} {xs : List Int32} {v : Int32} {c : Cell} (A : Arr Z h a c .int) (q1 : c.cls = k) (S : c.slots.size = (Int32.ofNat n).toNatClampNeg) (q3 : ¬ Int32.ofNat n < 0) (H : Has c (xs.map Value.int) (.int 0)) (G : ∀ i, i < c.slots.size → fits .int ((xs.map Value.int).getD i (.int 0)) = true) (W : Wr h h' a (Int32.ofNat y).toNatClampNeg (.int v)) (hl : xs.length = n) (hy : y < n) (hn : n ≤ 5) : Arv Z h' a k .int (Int32.ofNat n) ((xs.set y v).map Value.int) (.int 0) := by
  have q := Arv.set A q1 S q3 H G (v := .int v) rfl W y (own_tn (by omega)) (by rw [List.length_map]; omega)
  rw [List.map_set]
  exact q
def QWI (Z : State) (ls : Addr) (xs : List Int32) (h0 : Heap) (n0 : Nat) (v : Option Value) (h : Heap) (L : List Loc) : Prop := Fr n0 L ∧ ∃ r ia, v = some (.ref r) ∧ Ext h0 h ∧ Exa Z h r "com/example/grantline/grantline/engine/Actions" ∧ Fld Z h r "com/example/grantline/grantline/engine/Actions" "names" "Ljava/util/List;" (.ref ls) ∧ Fld Z h r "com/example/grantline/grantline/engine/Actions" "implied" "[I" (.ref ia) ∧ IA Z h ia xs
theorem d13_0 : decode prog_18_method_3_code 0 = .ok (.aload_n 0, 1) := by decide +kernel
theorem d13_1 : decode prog_18_method_3_code 1 = .ok (.getfield 13, 3) := by decide +kernel
theorem d13_4 : decode prog_18_method_3_code 4 = .ok (.invokevirtual 26, 3) := by decide +kernel
theorem d13_7 : decode prog_18_method_3_code 7 = .ok (.checkcast 27, 3) := by decide +kernel
theorem d13_10 : decode prog_18_method_3_code 10 = .ok (.astore_n 3, 1) := by decide +kernel
theorem d13_11 : decode prog_18_method_3_code 11 = .ok (.aload_n 2, 1) := by decide +kernel
theorem d13_12 : decode prog_18_method_3_code 12 = .ok (.astore 4, 2) := by decide +kernel
theorem d13_14 : decode prog_18_method_3_code 14 = .ok (.aload 4, 2) := by decide +kernel
theorem d13_16 : decode prog_18_method_3_code 16 = .ok (.arraylength, 1) := by decide +kernel
theorem d13_17 : decode prog_18_method_3_code 17 = .ok (.istore 5, 2) := by decide +kernel
theorem d13_19 : decode prog_18_method_3_code 19 = .ok (.iconst 0, 1) := by decide +kernel
theorem d13_20 : decode prog_18_method_3_code 20 = .ok (.istore 6, 2) := by decide +kernel
theorem d13_22 : decode prog_18_method_3_code 22 = .ok (.iload 6, 2) := by decide +kernel
theorem d13_24 : decode prog_18_method_3_code 24 = .ok (.iload 5, 2) := by decide +kernel
theorem d13_26 : decode prog_18_method_3_code 26 = .ok (.if_icmp .ge 34, 3) := by decide +kernel
theorem d13_29 : decode prog_18_method_3_code 29 = .ok (.aload 4, 2) := by decide +kernel
theorem d13_31 : decode prog_18_method_3_code 31 = .ok (.iload 6, 2) := by decide +kernel
theorem d13_33 : decode prog_18_method_3_code 33 = .ok (.aaload, 1) := by decide +kernel
theorem d13_34 : decode prog_18_method_3_code 34 = .ok (.astore 7, 2) := by decide +kernel
theorem d13_36 : decode prog_18_method_3_code 36 = .ok (.aload_n 3, 1) := by decide +kernel
theorem d13_37 : decode prog_18_method_3_code 37 = .ok (.aload_n 0, 1) := by decide +kernel
theorem d13_38 : decode prog_18_method_3_code 38 = .ok (.aload 7, 2) := by decide +kernel
theorem d13_40 : decode prog_18_method_3_code 40 = .ok (.invokevirtual 31, 3) := by decide +kernel
theorem d13_43 : decode prog_18_method_3_code 43 = .ok (.dup2, 1) := by decide +kernel
theorem d13_44 : decode prog_18_method_3_code 44 = .ok (.iaload, 1) := by decide +kernel
theorem d13_45 : decode prog_18_method_3_code 45 = .ok (.iconst 1, 1) := by decide +kernel
theorem d13_46 : decode prog_18_method_3_code 46 = .ok (.aload_n 0, 1) := by decide +kernel
theorem d13_47 : decode prog_18_method_3_code 47 = .ok (.aload_n 1, 1) := by decide +kernel
theorem d13_48 : decode prog_18_method_3_code 48 = .ok (.invokevirtual 31, 3) := by decide +kernel
theorem d13_51 : decode prog_18_method_3_code 51 = .ok (.ishl, 1) := by decide +kernel
theorem d13_52 : decode prog_18_method_3_code 52 = .ok (.ior, 1) := by decide +kernel
theorem d13_53 : decode prog_18_method_3_code 53 = .ok (.iastore, 1) := by decide +kernel
theorem d13_54 : decode prog_18_method_3_code 54 = .ok (.iinc 6 1, 3) := by decide +kernel
theorem d13_57 : decode prog_18_method_3_code 57 = .ok (.goto (-35), 3) := by decide +kernel
theorem d13_60 : decode prog_18_method_3_code 60 = .ok (.new 8, 3) := by decide +kernel
theorem d13_63 : decode prog_18_method_3_code 63 = .ok (.dup, 1) := by decide +kernel
theorem d13_64 : decode prog_18_method_3_code 64 = .ok (.aload_n 0, 1) := by decide +kernel
theorem d13_65 : decode prog_18_method_3_code 65 = .ok (.getfield 22, 3) := by decide +kernel
theorem d13_68 : decode prog_18_method_3_code 68 = .ok (.aload_n 3, 1) := by decide +kernel
theorem d13_69 : decode prog_18_method_3_code 69 = .ok (.invokespecial 7, 3) := by decide +kernel
theorem d13_72 : decode prog_18_method_3_code 72 = .ok (.areturn, 1) := by decide +kernel
theorem pn_13 : plainName "com/example/grantline/grantline/engine/Actions" = true := by first | (simp [plainName, overriddenIn]; done) | decide +kernel
theorem pd_11 : parseMethodDescriptor "(Ljava/lang/String;)I" = some ⟨[(.object "java/lang/String")], some .int⟩ := by decide +kernel
theorem ef_rm_wi (m : MethodId) (x0 : Addr) (x1 : Addr) (x2 : Addr) : entryFrame m #[(.ref x0), (.ref x1), (.ref x2)] 8 = mkF m 0 #[.val (.ref x0), .val (.ref x1), .val (.ref x2), .unset, .unset, .unset, .unset, .unset] [] := by first | (simp [entryFrame, mkF, argsToLocals, Value.category]; done) | rfl
set_option maxRecDepth 65536 in
set_option maxHeartbeats 40000000 in
theorem rm_wi (l : Launch) (Z : State) (a0 : Array Value) (hw : ∀ d ∈ tables_1, d.before a0 Z = true) (ws : List Jvm.Cond) (a : Addr) (va : Addr) (A : Nat → Addr) (n x y : Nat) (xs : List Int32) (cs : Int32) (em ls ia : Addr) (h0 : Heap) (n0 : Nat) (Z0 : n0 ≤ h0.size) (E_a : Exa Z h0 a "com/example/grantline/grantline/engine/Actions") (F_nm : Fld Z h0 a "com/example/grantline/grantline/engine/Actions" "names" "Ljava/util/List;" (.ref ls)) (F_im : Fld Z h0 a "com/example/grantline/grantline/engine/Actions" "implied" "[I" (.ref ia)) (hIA : IA Z h0 ia xs) (hln : xs.length = n) (hn5 : n ≤ 5) (hLK : LK Z h0 ls n A) (hVA : RA Z h0 va (.object "java/lang/String") 1 (fun _ => A y)) (S_EM : Sta Z h0 "java/util/ImmutableCollections" "EMPTY" "Ljava/lang/Object;" (.ref em)) (hem : 2 ≤ n → (A 1) ≠ em) (hS : ∀ i, i < n → StrIs Z h0 (A i) (own_ch i)) (S_CS : Sta Z h0 "java/lang/String" "COMPACT_STRINGS" "Z" (.int cs)) (hcs : ¬ cs = 0) (hxn : x < n) (hyn : y < n) :
    MetFree l (⟨"com/example/grantline/grantline/engine/Actions", "withImplied", "(Ljava/lang/String;[Ljava/lang/String;)Lcom/example/grantline/grantline/engine/Actions;"⟩ : MethodName) (head1 (Jvm.Cond.code (⟨"com/example/grantline/grantline/engine/Actions", "withImplied", "(Ljava/lang/String;[Ljava/lang/String;)Lcom/example/grantline/grantline/engine/Actions;"⟩ : MethodName) prog_18_method_3_code 8 (some (.object "com/example/grantline/grantline/engine/Actions")) :: ws) ({ frames := 7, cells := 2, slots := 7, locals := 138 } : Room)) (fun aQ U => aQ = #[(.ref a), (.ref (A x)), (.ref va)] ∧ Z.Warmed39 U.vm ∧ U.heap = h0) (fun _ _ _ _ _ => True) (fun _ U o U' => ∃ vQ LQ, o = .returned vQ ∧ QWI Z ls (own_upd xs x y) h0 n0 vQ U'.heap LQ ∧ FrameEnd U o U' LQ ({ frames := 7, cells := 2, slots := 7, locals := 138 } : Room).cells ({ frames := 7, cells := 2, slots := 7, locals := 138 } : Room).slots) := by
  refine MetFree.of_bodySF (plainFor_of_name pn_13) hisR ?_
  intro p e s m args below meth c s₁ Bd hml0 hP hK
  obtain ⟨rfl, hZ, hh⟩ := hP
  have hx := Bd.exec
  have hby := Bd.bytes
  have hml : c.maxLocals = 8 := hml0
  have hown : s.vm.findClass "com/example/grantline/grantline/engine/Actions" = some m.cls := findClass_of_methodNamed Bd.named
  have hnm := (name_of_methodNamed Bd.named Bd.method).1
  have X0 : Stand p l e ({ frames := 7, cells := 2, slots := 7, locals := 138 } : Room) s m #[(.ref a), (.ref (A x)), (.ref va)] below meth c s₁ [] 0 0 := Stand.of_body Bd
  have e0 : s₁.heap = h0 := by rw [← hh, Bd.state]; rfl
  have NF := Fr.nil n0
  have OLD : Ext h0 h0 := own_erefl h0
  obtain ⟨ki, V_ia, EI_ia⟩ := hIA
  rw [hln] at V_ia
  have hcap : (Int32.ofNat n).toNatClampNeg ≤ 5 := by rw [own_tn hn5]; exact hn5
  refine Gl.out ?_
  refine Gl.go ?_ (fun t k => castTop (ef_rm_wi m a (A x) va) k)
  show Gl _ _ _ _ (s₁.setTop (mkF m 0 _ []))
  refine Gl.go ?_ (fun t k => XS.aloadN X0.here hx rfl (hb hby d13_0) rfl rfl k)
  show Gl _ _ _ _ (s₁.setTop (mkF m 1 #[.val (.ref a), .val (.ref (A x)), .val (.ref va), .unset, .unset, .unset, .unset, .unset] [(.ref a)]))
  obtain ⟨T176, X176, e176, st176⟩ := getF X0 hx hZ hown (host := "") (Or.inl (hw _ (List.mem_of_getElem? (i := 77) rfl))) Via.refl e0 (F_im.ext OLD) (g := (mkF m 1 #[.val (.ref a), .val (.ref (A x)), .val (.ref va), .unset, .unset, .unset, .unset, .unset] [(.ref a)])) rfl rfl (hb hby d13_1)
  refine Gl.go ?_ st176
  show Gl _ _ _ _ (T176.setTop (mkF m 4 #[.val (.ref a), .val (.ref (A x)), .val (.ref va), .unset, .unset, .unset, .unset, .unset] [(.ref ia)]))
  obtain ⟨T177, h177, X177, e177, E177, A177, B177, st177⟩ := cloneH X176 hx hZ hown (hw _ (List.mem_of_getElem? (i := 90) rfl)) (hw _ (List.mem_of_getElem? (i := 91) rfl)) (hw _ (List.mem_of_getElem? (i := 95) rfl)) (hw _ (List.mem_of_getElem? (i := 93) rfl)) (hw _ (List.mem_of_getElem? (i := 94) rfl)) (hw _ (List.mem_of_getElem? (i := 96) rfl)) e176 (V_ia.ext OLD).arh (EI_ia.ext OLD) (g := (mkF m 4 #[.val (.ref a), .val (.ref (A x)), .val (.ref va), .unset, .unset, .unset, .unset, .unset] [(.ref ia)])) rfl (by rw [hml]; rfl) rfl (hb hby d13_4) (by decide) (W := 0) (by show 2 * 0 + _ ≤ _; exact Nat.le_of_eq rfl) (by decide) (cap := 5) hcap (by decide) (by decide)
  obtain ⟨b177, g177⟩ : ∃ z, z = h0.size := ⟨_, rfl⟩
  rw [← g177] at A177 B177 st177
  have g_b177 : n0 ≤ b177 := Nat.le_trans Z0 (Nat.le_of_eq g177.symm)
  have sz_b177 : (h0).size ≤ b177 := Nat.le_trans OLD.1 (Nat.le_of_eq g177.symm)
  replace OLD := own_oext OLD E177
  replace Z0 := Nat.le_trans Z0 E177.1
  have V_b177 : Arv Z h177 b177 ki .int (Int32.ofNat n) (xs.map Value.int) (.int 0) := A177
  have EI_b177 := B177
  refine Gl.go ?_ st177
  show Gl _ _ _ _ (T177.setTop (mkF m 7 #[.val (.ref a), .val (.ref (A x)), .val (.ref va), .unset, .unset, .unset, .unset, .unset] [(.ref b177)]))
  obtain ⟨T178, X178, e178, st178⟩ := castY X177 hx hZ hown (hw _ (List.mem_of_getElem? (i := 97) rfl)) e177 (Ins.self EI_b177) (g := (mkF m 7 #[.val (.ref a), .val (.ref (A x)), .val (.ref va), .unset, .unset, .unset, .unset, .unset] [(.ref b177)])) rfl rfl (hb hby d13_7)
  refine Gl.go ?_ st178
  show Gl _ _ _ _ (T178.setTop (mkF m 10 #[.val (.ref a), .val (.ref (A x)), .val (.ref va), .unset, .unset, .unset, .unset, .unset] [(.ref b177)]))
  refine Gl.go ?_ (fun t k => XS.astoreN X178.here hx rfl (hb hby d13_10) rfl rfl (l' := #[.val (.ref a), .val (.ref (A x)), .val (.ref va), .val (.ref b177), .unset, .unset, .unset, .unset]) rfl k)
  show Gl _ _ _ _ (T178.setTop (mkF m 11 _ []))
  refine Gl.go ?_ (fun t k => XS.aloadN X178.here hx rfl (hb hby d13_11) rfl rfl k)
  show Gl _ _ _ _ (T178.setTop (mkF m 12 #[.val (.ref a), .val (.ref (A x)), .val (.ref va), .val (.ref b177), .unset, .unset, .unset, .unset] [(.ref va)]))
  refine Gl.go ?_ (fun t k => XS.astore X178.here hx rfl (hb hby d13_12) rfl rfl (l' := #[.val (.ref a), .val (.ref (A x)), .val (.ref va), .val (.ref b177), .val (.ref va), .unset, .unset, .unset]) rfl k)
  show Gl _ _ _ _ (T178.setTop (mkF m 14 _ []))
  refine Gl.go ?_ (fun t k => XS.aload X178.here hx rfl (hb hby d13_14) rfl rfl k)
  show Gl _ _ _ _ (T178.setTop (mkF m 16 #[.val (.ref a), .val (.ref (A x)), .val (.ref va), .val (.ref b177), .val (.ref va), .unset, .unset, .unset] [(.ref va)]))
  refine Gl.go ?_ (RA.len (hVA.ext OLD) X178 hx hZ e178 (g := (mkF m 16 #[.val (.ref a), .val (.ref (A x)), .val (.ref va), .val (.ref b177), .val (.ref va), .unset, .unset, .unset] [(.ref va)])) rfl rfl (hb hby d13_16))
  show Gl _ _ _ _ (T178.setTop (mkF m 17 #[.val (.ref a), .val (.ref (A x)), .val (.ref va), .val (.ref b177), .val (.ref va), .unset, .unset, .unset] [(.int (1 : Int32))]))
  refine Gl.go ?_ (fun t k => XS.istore X178.here hx rfl (hb hby d13_17) rfl (l' := #[.val (.ref a), .val (.ref (A x)), .val (.ref va), .val (.ref b177), .val (.ref va), .val (.int (1 : Int32)), .unset, .unset]) rfl k)
  show Gl _ _ _ _ (T178.setTop (mkF m 19 _ []))
  refine Gl.go ?_ (fun t k => XS.iconst X178.here hx rfl (hb hby d13_19) k)
  show Gl _ _ _ _ (T178.setTop (mkF m 20 #[.val (.ref a), .val (.ref (A x)), .val (.ref va), .val (.ref b177), .val (.ref va), .val (.int (1 : Int32)), .unset, .unset] [(.int (0 : Int32))]))
  refine Gl.go ?_ (fun t k => XS.istore X178.here hx rfl (hb hby d13_20) rfl (l' := #[.val (.ref a), .val (.ref (A x)), .val (.ref va), .val (.ref b177), .val (.ref va), .val (.int (1 : Int32)), .val (.int (0 : Int32)), .unset]) rfl k)
  show Gl _ _ _ _ (T178.setTop (mkF m 22 _ []))
  refine Gl.go ?_ (fun t k => XS.iload X178.here hx rfl (hb hby d13_22) rfl k)
  show Gl _ _ _ _ (T178.setTop (mkF m 24 _ [(.int (0 : Int32))]))
  refine Gl.go ?_ (fun t k => XS.iload X178.here hx rfl (hb hby d13_24) rfl k)
  show Gl _ _ _ _ (T178.setTop (mkF m 26 _ [(.int (1 : Int32)), (.int (0 : Int32))]))
  refine Gl.go ?_ (fun t k => XS.icmpNo X178.here hx rfl (hb hby d13_26) rfl (tlt (by decide : (0 : Int32) < (1 : Int32))).2.1 k)
  show Gl _ _ _ _ (T178.setTop (mkF m 29 _ []))
  refine Gl.go ?_ (fun t k => XS.aload X178.here hx rfl (hb hby d13_29) rfl rfl k)
  show Gl _ _ _ _ (T178.setTop (mkF m 31 _ [(.ref va)]))
  refine Gl.go ?_ (fun t k => XS.iload X178.here hx rfl (hb hby d13_31) rfl k)
  show Gl _ _ _ _ (T178.setTop (mkF m 33 #[.val (.ref a), .val (.ref (A x)), .val (.ref va), .val (.ref b177), .val (.ref va), .val (.int (1 : Int32)), .val (.int (0 : Int32)), .unset] [(.int (0 : Int32)), (.ref va)]))
  refine Gl.go ?_ (RA.rd (hVA.ext OLD) rfl X178 hx hZ e178 (by decide) (by decide) (g := (mkF m 33 #[.val (.ref a), .val (.ref (A x)), .val (.ref va), .val (.ref b177), .val (.ref va), .val (.int (1 : Int32)), .val (.int (0 : Int32)), .unset] [(.int (0 : Int32)), (.ref va)])) rfl rfl (hb hby d13_33))
  show Gl _ _ _ _ (T178.setTop (mkF m 34 #[.val (.ref a), .val (.ref (A x)), .val (.ref va), .val (.ref b177), .val (.ref va), .val (.int (1 : Int32)), .val (.int (0 : Int32)), .unset] [(.ref (A y))]))
  refine Gl.go ?_ (fun t k => XS.astore X178.here hx rfl (hb hby d13_34) rfl rfl (l' := #[.val (.ref a), .val (.ref (A x)), .val (.ref va), .val (.ref b177), .val (.ref va), .val (.int (1 : Int32)), .val (.int (0 : Int32)), .val (.ref (A y))]) rfl k)
  show Gl _ _ _ _ (T178.setTop (mkF m 36 _ []))
  refine Gl.go ?_ (fun t k => XS.aloadN X178.here hx rfl (hb hby d13_36) rfl rfl k)
  show Gl _ _ _ _ (T178.setTop (mkF m 37 _ [(.ref b177)]))
  refine Gl.go ?_ (fun t k => XS.aloadN X178.here hx rfl (hb hby d13_37) rfl rfl k)
  show Gl _ _ _ _ (T178.setTop (mkF m 38 _ [(.ref a), (.ref b177)]))
  refine Gl.go ?_ (fun t k => XS.aload X178.here hx rfl (hb hby d13_38) rfl rfl k)
  show Gl _ _ _ _ (T178.setTop (mkF m 40 #[.val (.ref a), .val (.ref (A x)), .val (.ref va), .val (.ref b177), .val (.ref va), .val (.int (1 : Int32)), .val (.int (0 : Int32)), .val (.ref (A y))] [(.ref (A y)), (.ref a), (.ref b177)]))
  obtain ⟨cq179, q179, q179'⟩ := (E_a.ext OLD).cell
  obtain ⟨_, _, ⟨T179, L179, k179, n179⟩, -, X179, ⟨Lc179, hQ179, l179, y179, z179⟩, st179⟩ := X178.privateBack hx (y := (⟨"com/example/grantline/grantline/engine/Actions", "index", "(Ljava/lang/String;)I"⟩ : MethodName)) hown (mvT hZ (hw _ (List.mem_of_getElem? (i := 99) rfl))) (mvT hZ (hw _ (List.mem_of_getElem? (i := 100) rfl))) (own_selp hZ (hw _ (List.mem_of_getElem? (i := 18) rfl)) (Cond.privateMethod_at (mvP hZ (hw _ (List.mem_of_getElem? (i := 101) rfl)) (args := #[]))) (hw _ (List.mem_of_getElem? (i := 100) rfl))) (Cond.privateMethod_at (mvP hZ (hw _ (List.mem_of_getElem? (i := 101) rfl)) (args := #[]))) (mvT hZ (hw _ (List.mem_of_getElem? (i := 102) rfl))) (by decide) (backOf (W := 1) (rm_index l Z a0 hw [] a A n y cs em ls h177 (F_nm.ext OLD) (hLK.ext OLD) (S_EM.ext OLD) hem (fun i q => (hS i q).ext OLD) (S_CS.ext OLD) hcs hyn) hZ (hw _ (List.mem_of_getElem? (i := 102) rfl)) (hw _ (List.mem_of_getElem? (i := 19) rfl)) (by decide) (by decide)) (g := (mkF m 40 #[.val (.ref a), .val (.ref (A x)), .val (.ref va), .val (.ref b177), .val (.ref va), .val (.int (1 : Int32)), .val (.int (0 : Int32)), .val (.ref (A y))] [(.ref (A y)), (.ref a), (.ref b177)])) rfl (by rw [hml]; rfl) (Steps.refl _) (a := a) (by rw [e178]; exact q179) q179' (argsL := [(.ref (A y))]) (rest := [(.ref b177)]) (lenOf pd_11 rfl) rfl (by show 2 * 0 + _ ≤ _; exact Nat.le_of_eq rfl) (hb hby d13_40) (fun _ _ => ⟨rfl, e178, (by decide : 1 + 0 ≤ _), (by decide : 5 + 0 ≤ _)⟩)
  dsimp only [Pt.U, Pt.locs, Pt.cells, Pt.slots] at X179 l179 y179 z179 st179 hQ179
  rw [l179, y179, z179] at X179
  clear l179 y179 z179
  obtain ⟨rfl, rfl, e179⟩ := hQ179
  replace NF := Fr.app NF (Fr.nil n0)
  refine Gl.tr ?_ st179
  show Gl _ _ _ _ (T179.setTop (mkF m 43 #[.val (.ref a), .val (.ref (A x)), .val (.ref va), .val (.ref b177), .val (.ref va), .val (.int (1 : Int32)), .val (.int (0 : Int32)), .val (.ref (A y))] [(.int (Int32.ofNat y)), (.ref b177)]))
  refine Gl.go ?_ (fun t k => Jvm.Free.XT.dup2 X179.here hx rfl (hb hby d13_43) rfl rfl rfl k)
  show Gl _ _ _ _ (T179.setTop (mkF m 44 #[.val (.ref a), .val (.ref (A x)), .val (.ref va), .val (.ref b177), .val (.ref va), .val (.int (1 : Int32)), .val (.int (0 : Int32)), .val (.ref (A y))] [(.int (Int32.ofNat y)), (.ref b177), (.int (Int32.ofNat y)), (.ref b177)]))
  refine Gl.go ?_ (BA.rdI (BA.of xs V_b177 (by rw [own_tn hn5, hln]; exact Nat.le_refl _)) X179 hx hZ e179 (own_lo hyn hn5) (own_hi hyn hn5) (g := (mkF m 44 #[.val (.ref a), .val (.ref (A x)), .val (.ref va), .val (.ref b177), .val (.ref va), .val (.int (1 : Int32)), .val (.int (0 : Int32)), .val (.ref (A y))] [(.int (Int32.ofNat y)), (.ref b177), (.int (Int32.ofNat y)), (.ref b177)])) rfl rfl (hb hby d13_44))
  show Gl _ _ _ _ (T179.setTop (mkF m 45 _ [(.int ((nth xs) (Int32.ofNat y))), (.int (Int32.ofNat y)), (.ref b177)]))
  refine Gl.go ?_ (fun t k => XS.iconst X179.here hx rfl (hb hby d13_45) k)
  show Gl _ _ _ _ (T179.setTop (mkF m 46 _ [(.int (1 : Int32)), (.int ((nth xs) (Int32.ofNat y))), (.int (Int32.ofNat y)), (.ref b177)]))
  refine Gl.go ?_ (fun t k => XS.aloadN X179.here hx rfl (hb hby d13_46) rfl rfl k)
  show Gl _ _ _ _ (T179.setTop (mkF m 47 _ [(.ref a), (.int (1 : Int32)), (.int ((nth xs) (Int32.ofNat y))), (.int (Int32.ofNat y)), (.ref b177)]))
  refine Gl.go ?_ (fun t k => XS.aloadN X179.here hx rfl (hb hby d13_47) rfl rfl k)
  show Gl _ _ _ _ (T179.setTop (mkF m 48 #[.val (.ref a), .val (.ref (A x)), .val (.ref va), .val (.ref b177), .val (.ref va), .val (.int (1 : Int32)), .val (.int (0 : Int32)), .val (.ref (A y))] [(.ref (A x)), (.ref a), (.int (1 : Int32)), (.int ((nth xs) (Int32.ofNat y))), (.int (Int32.ofNat y)), (.ref b177)]))
  obtain ⟨cq180, q180, q180'⟩ := (E_a.ext OLD).cell
  obtain ⟨_, _, ⟨T180, L180, k180, n180⟩, -, X180, ⟨Lc180, hQ180, l180, y180, z180⟩, st180⟩ := X179.privateBack hx (y := (⟨"com/example/grantline/grantline/engine/Actions", "index", "(Ljava/lang/String;)I"⟩ : MethodName)) hown (mvT hZ (hw _ (List.mem_of_getElem? (i := 99) rfl))) (mvT hZ (hw _ (List.mem_of_getElem? (i := 100) rfl))) (own_selp hZ (hw _ (List.mem_of_getElem? (i := 18) rfl)) (Cond.privateMethod_at (mvP hZ (hw _ (List.mem_of_getElem? (i := 101) rfl)) (args := #[]))) (hw _ (List.mem_of_getElem? (i := 100) rfl))) (Cond.privateMethod_at (mvP hZ (hw _ (List.mem_of_getElem? (i := 101) rfl)) (args := #[]))) (mvT hZ (hw _ (List.mem_of_getElem? (i := 102) rfl))) (by decide) (backOf (W := 4) (rm_index l Z a0 hw [] a A n x cs em ls h177 (F_nm.ext OLD) (hLK.ext OLD) (S_EM.ext OLD) hem (fun i q => (hS i q).ext OLD) (S_CS.ext OLD) hcs hxn) hZ (hw _ (List.mem_of_getElem? (i := 102) rfl)) (hw _ (List.mem_of_getElem? (i := 19) rfl)) (by decide) (by decide)) (g := (mkF m 48 #[.val (.ref a), .val (.ref (A x)), .val (.ref va), .val (.ref b177), .val (.ref va), .val (.int (1 : Int32)), .val (.int (0 : Int32)), .val (.ref (A y))] [(.ref (A x)), (.ref a), (.int (1 : Int32)), (.int ((nth xs) (Int32.ofNat y))), (.int (Int32.ofNat y)), (.ref b177)])) rfl (by rw [hml]; rfl) (Steps.refl _) (a := a) (by rw [e179]; exact q180) q180' (argsL := [(.ref (A x))]) (rest := [(.int (1 : Int32)), (.int ((nth xs) (Int32.ofNat y))), (.int (Int32.ofNat y)), (.ref b177)]) (lenOf pd_11 rfl) rfl (by show 2 * 0 + _ ≤ _; exact Nat.le_of_eq rfl) (hb hby d13_48) (fun _ _ => ⟨rfl, e179, (by decide : 1 + 0 ≤ _), (by decide : 5 + 0 ≤ _)⟩)
  dsimp only [Pt.U, Pt.locs, Pt.cells, Pt.slots] at X180 l180 y180 z180 st180 hQ180
  rw [l180, y180, z180] at X180
  clear l180 y180 z180
  obtain ⟨rfl, rfl, e180⟩ := hQ180
  replace NF := Fr.app NF (Fr.nil n0)
  refine Gl.tr ?_ st180
  show Gl _ _ _ _ (T180.setTop (mkF m 51 _ [(.int (Int32.ofNat x)), (.int (1 : Int32)), (.int ((nth xs) (Int32.ofNat y))), (.int (Int32.ofNat y)), (.ref b177)]))
  refine Gl.go ?_ (fun t k => XS.ishl X180.here hx rfl (hb hby d13_51) rfl k)
  show Gl _ _ _ _ (T180.setTop (mkF m 52 _ [(.int ((1 : Int32) <<< ((Int32.ofNat x) &&& 31))), (.int ((nth xs) (Int32.ofNat y))), (.int (Int32.ofNat y)), (.ref b177)]))
  refine Gl.go ?_ (fun t k => XS.ior X180.here hx rfl (hb hby d13_52) rfl k)
  show Gl _ _ _ _ (T180.setTop (mkF m 53 #[.val (.ref a), .val (.ref (A x)), .val (.ref va), .val (.ref b177), .val (.ref va), .val (.int (1 : Int32)), .val (.int (0 : Int32)), .val (.ref (A y))] [(.int (((nth xs) (Int32.ofNat y)) ||| ((1 : Int32) <<< ((Int32.ofNat x) &&& 31)))), (.int (Int32.ofNat y)), (.ref b177)]))
  obtain ⟨cl181, Ar181, q181, S181, N181, Hh181, G181⟩ := V_b177
  obtain ⟨T181, h181, X181, e181, W181, st181⟩ := stI X180 hx hZ e180 Ar181 (j := (Int32.ofNat y)) (inb_of S181 ⟨own_lo hyn hn5, own_hi hyn hn5⟩) (g := (mkF m 53 #[.val (.ref a), .val (.ref (A x)), .val (.ref va), .val (.ref b177), .val (.ref va), .val (.int (1 : Int32)), .val (.int (0 : Int32)), .val (.ref (A y))] [(.int (((nth xs) (Int32.ofNat y)) ||| ((1 : Int32) <<< ((Int32.ofNat x) &&& 31)))), (.int (Int32.ofNat y)), (.ref b177)])) rfl rfl (hb hby d13_53)
  replace OLD := own_owr OLD W181 sz_b177
  replace EI_b177 := EI_b177.wr W181
  replace Z0 := Nat.le_trans Z0 (Keep.of_wr W181).1
  have V_b177 : Arv Z h181 b177 ki .int (Int32.ofNat n) ((own_upd xs x y).map Value.int) (.int 0) := own_iaset Ar181 q181 S181 N181 Hh181 G181 W181 hln hyn hn5
  replace NF := Fr.snoc X181 NF g_b177
  refine Gl.go ?_ st181
  show Gl _ _ _ _ (T181.setTop (mkF m 54 #[.val (.ref a), .val (.ref (A x)), .val (.ref va), .val (.ref b177), .val (.ref va), .val (.int (1 : Int32)), .val (.int (0 : Int32)), .val (.ref (A y))] []))
  refine Gl.go ?_ (fun t k => XS.iinc X181.here hx rfl (hb hby d13_54) rfl (l' := #[.val (.ref a), .val (.ref (A x)), .val (.ref va), .val (.ref b177), .val (.ref va), .val (.int (1 : Int32)), .val (.int (1 : Int32)), .val (.ref (A y))]) rfl k)
  show Gl _ _ _ _ (T181.setTop (mkF m 57 _ []))
  refine Gl.go ?_ (fun t k => XS.goto X181.here hx rfl (pc0 := 57) (pc' := 22) rfl (hb hby d13_57) (by decide) (by decide) k)
  show Gl _ _ _ _ (T181.setTop (mkF m 22 _ []))
  refine Gl.go ?_ (fun t k => XS.iload X181.here hx rfl (hb hby d13_22) rfl k)
  show Gl _ _ _ _ (T181.setTop (mkF m 24 _ [(.int (1 : Int32))]))
  refine Gl.go ?_ (fun t k => XS.iload X181.here hx rfl (hb hby d13_24) rfl k)
  show Gl _ _ _ _ (T181.setTop (mkF m 26 _ [(.int (1 : Int32)), (.int (1 : Int32))]))
  refine Gl.go ?_ (fun t k => XS.icmpYes X181.here hx rfl (pc0 := 26) (pc' := 60) rfl (hb hby d13_26) rfl (flt (by decide : ¬ ((1 : Int32) < (1 : Int32)))).2.1 (by decide) (by decide) k)
  show Gl _ _ _ _ (T181.setTop (mkF m 60 #[.val (.ref a), .val (.ref (A x)), .val (.ref va), .val (.ref b177), .val (.ref va), .val (.int (1 : Int32)), .val (.int (1 : Int32)), .val (.ref (A y))] []))
  obtain ⟨T182, h182, X182, e182, E182, A182, D182, -, st182⟩ := newO X181 hx hZ hown (hw _ (List.mem_of_getElem? (i := 129) rfl)) (hw _ (List.mem_of_getElem? (i := 18) rfl)) (hw _ (List.mem_of_getElem? (i := 19) rfl)) e181 (g := (mkF m 60 #[.val (.ref a), .val (.ref (A x)), .val (.ref va), .val (.ref b177), .val (.ref va), .val (.int (1 : Int32)), .val (.int (1 : Int32)), .val (.ref (A y))] [])) rfl (hb hby d13_60) (by decide) (by decide)
  obtain ⟨b182, g182⟩ : ∃ z, z = h181.size := ⟨_, rfl⟩
  rw [← g182] at A182 D182 st182
  have g_b182 : n0 ≤ b182 := Nat.le_trans Z0 (Nat.le_of_eq g182.symm)
  have ne_b177_b182 : b177 ≠ b182 := Nat.ne_of_lt (Nat.lt_of_lt_of_le EI_b177.lt (Nat.le_of_eq g182.symm))
  have sz_b182 : (h0).size ≤ b182 := Nat.le_trans OLD.1 (Nat.le_of_eq g182.symm)
  replace OLD := own_oext OLD E182
  replace EI_b177 := EI_b177.ext E182
  replace V_b177 := V_b177.ext E182
  replace Z0 := Nat.le_trans Z0 E182.1
  have E_b182 := A182
  have F_names_b182 : Fld Z h182 b182 "com/example/grantline/grantline/engine/Actions" "names" "Ljava/util/List;" .null := D182 (Or.inr (hw _ (List.mem_of_getElem? (i := 76) rfl))) (ty := (.object "java/util/List")) (by decide)
  have F_implied_b182 : Fld Z h182 b182 "com/example/grantline/grantline/engine/Actions" "implied" "[I" .null := D182 (Or.inr (hw _ (List.mem_of_getElem? (i := 78) rfl))) (ty := (.array .int)) (by decide)
  refine Gl.go ?_ st182
  show Gl _ _ _ _ (T182.setTop (mkF m 63 _ [(.ref b182)]))
  refine Gl.go ?_ (fun t k => XS.dup X182.here hx rfl (hb hby d13_63) rfl rfl k)
  show Gl _ _ _ _ (T182.setTop (mkF m 64 _ [(.ref b182), (.ref b182)]))
  refine Gl.go ?_ (fun t k => XS.aloadN X182.here hx rfl (hb hby d13_64) rfl rfl k)
  show Gl _ _ _ _ (T182.setTop (mkF m 65 #[.val (.ref a), .val (.ref (A x)), .val (.ref va), .val (.ref b177), .val (.ref va), .val (.int (1 : Int32)), .val (.int (1 : Int32)), .val (.ref (A y))] [(.ref a), (.ref b182), (.ref b182)]))
  obtain ⟨T183, X183, e183, st183⟩ := getF X182 hx hZ hown (host := "") (Or.inl (hw _ (List.mem_of_getElem? (i := 75) rfl))) Via.refl e182 (F_nm.ext OLD) (g := (mkF m 65 #[.val (.ref a), .val (.ref (A x)), .val (.ref va), .val (.ref b177), .val (.ref va), .val (.int (1 : Int32)), .val (.int (1 : Int32)), .val (.ref (A y))] [(.ref a), (.ref b182), (.ref b182)])) rfl rfl (hb hby d13_65)
  refine Gl.go ?_ st183
  show Gl _ _ _ _ (T183.setTop (mkF m 68 _ [(.ref ls), (.ref b182), (.ref b182)]))
  refine Gl.go ?_ (fun t k => XS.aloadN X183.here hx rfl (hb hby d13_68) rfl rfl k)
  show Gl _ _ _ _ (T183.setTop (mkF m 69 #[.val (.ref a), .val (.ref (A x)), .val (.ref va), .val (.ref b177), .val (.ref va), .val (.int (1 : Int32)), .val (.int (1 : Int32)), .val (.ref (A y))] [(.ref b177), (.ref ls), (.ref b182), (.ref b182)]))
  obtain ⟨_, _, ⟨T184, L184, k184, n184⟩, -, X184, ⟨Lc184, hQ184, l184, y184, z184⟩, st184⟩ := X183.specialBack hx (y := (⟨"com/example/grantline/grantline/engine/Actions", "<init>", "(Ljava/util/List;[I)V"⟩ : MethodName)) rfl hown (mvT hZ (hw _ (List.mem_of_getElem? (i := 71) rfl))) (mvT hZ (hw _ (List.mem_of_getElem? (i := 72) rfl))) (mvT hZ (hw _ (List.mem_of_getElem? (i := 73) rfl))) (by decide) (backOf (W := 1) (rm11 l Z a0 hw [] b182 ls b177  _ _ h182 n0 Z0 E_b182 g_b182 F_names_b182 F_implied_b182 ) hZ (hw _ (List.mem_of_getElem? (i := 73) rfl)) (hw _ (List.mem_of_getElem? (i := 19) rfl)) (by decide) (by decide)) (g := (mkF m 69 #[.val (.ref a), .val (.ref (A x)), .val (.ref va), .val (.ref b177), .val (.ref va), .val (.int (1 : Int32)), .val (.int (1 : Int32)), .val (.ref (A y))] [(.ref b177), (.ref ls), (.ref b182), (.ref b182)])) rfl (by rw [hml]; rfl) (Steps.refl _) (a := b182) (argsL := [(.ref ls), (.ref b177)]) (rest := [(.ref b182)]) (lenOf pd_10 rfl) rfl (by show 2 * 0 + _ ≤ _; exact Nat.le_of_eq rfl) (hb hby d13_69) (fun _ _ => ⟨rfl, e183, (by decide : 2 + 0 ≤ _), (by decide : 7 + 0 ≤ _)⟩)
  dsimp only [Pt.U, Pt.locs, Pt.cells, Pt.slots] at X184 l184 y184 z184 st184 hQ184
  rw [l184, y184, z184] at X184
  clear l184 y184 z184
  obtain ⟨N184q, rfl, K184, ec184, f184_names, f184_implied⟩ := hQ184
  replace NF := Fr.app NF N184q
  replace OLD := own_okeep OLD K184 (fun y hy => by cases List.mem_singleton.mp hy; exact sz_b182)
  replace EI_b177 := EI_b177.keep K184
  replace V_b177 := V_b177.keep K184 (ninS ne_b177_b182 nin0)
  replace Z0 := Nat.le_trans Z0 K184.1
  replace E_b182 := ec184
  replace F_names_b182 := f184_names
  replace F_implied_b182 := f184_implied
  refine Gl.tr ?_ st184
  show Gl _ _ _ _ (T184.setTop (mkF m 72 _ [(.ref b182)]))
  obtain ⟨fs, hr, hrun, hended, hW, hsame⟩ := X184.leave (v := some (.ref b182)) (fun h => by rw [Bd.returns] at h; cases h) (BodyLoose.notSynchronized Bd)
  exact Gl.mk ⟨_, _, retOut X184 hx Bd.returns rfl (Or.inr (Or.inr (Or.inr (Or.inr ⟨rfl, rfl, rfl⟩)))) (hb hby d13_72) hr, hrun, hended, _, _, rfl, own_cast (P := fun H v L => QWI Z ls (own_upd xs x y) h0 n0 v H L) rfl ⟨NF, ⟨b182, b177, rfl, OLD, E_b182, F_names_b182, F_implied_b182, own_ia (own_upd xs x y) (own_upd xs x y) V_b177 EI_b177 rfl (by rw [own_upd, List.length_set, hln])⟩⟩, ⟨_, rfl⟩, hW, hsame.mono (by decide) (by decide)⟩
/-- a String of one sign, none of whose cells is arr -/
def StrO (Z : State) (arr : Addr) (c : Int32) (h : Heap) (a : Addr) : Prop := a ≠ arr ∧ Exa Z h a "java/lang/String" ∧ Fld Z h a "java/lang/String" "coder" "B" (.int 0) ∧ ∃ b, b ≠ arr ∧ Fld Z h a "java/lang/String" "value" "[B" (.ref b) ∧ BA Z h b .byte 1 (fun _ => c)
theorem StrO.ext {Z : State} {h h' : Heap} {arr a : Addr} {c : Int32} (F : StrO Z arr c h a) (E : Ext h h') : StrO Z arr c h' a := by
  obtain ⟨h0, h1, h2, b, hb, h3, h4⟩ := F; exact ⟨h0, h1.ext E, h2.ext E, b, hb, h3.ext E, h4.ext E⟩
theorem StrO.wr {Z : State} {h h' : Heap} {arr a : Addr} {c : Int32} {sl : Nat} {v : Value} (F : StrO Z arr c h a) (W : Wr h h' arr sl v) : StrO Z arr c h' a := by
  obtain ⟨h0, h1, h2, b, hb, h3, h4⟩ := F; exact ⟨h0, h1.wr W, h2.other W (Or.inl h0), b, hb, h3.other W (Or.inl h0), h4.other W hb⟩
theorem StrO.is {Z : State} {h : Heap} {arr a : Addr} {c : Int32} (F : StrO Z arr c h a) : StrIs Z h a c := by
  obtain ⟨h0, h1, h2, b, hb, h3, h4⟩ := F; exact ⟨h1, h2, b, h3, h4⟩
theorem StrO.mk' {Z : State} {h h' : Heap} {arr a b : Addr} {k : ClassId} {c : Int32} {n : Nat} (h1 : Exa Z h' a "java/lang/String") (h2 : Fld Z h' a "java/lang/String" "coder" "B" (.int 0)) (h3 : Fld Z h' a "java/lang/String" "value" "[B" (.ref b)) (V : Arv Z h' b k .byte 1 [.int c] (.int 0)) (hw : (a < n ∧ b < n) ∨ (h.size ≤ a ∧ h.size ≤ b)) (l1 : n ≤ arr) (l2 : arr < h.size) : StrO Z arr c h' a := by
  refine ⟨?_, h1, h2, b, ?_, h3, ?_⟩
  · rcases hw with q | q
    · exact Nat.ne_of_lt (Nat.lt_of_lt_of_le q.1 l1)
    · exact Nat.ne_of_gt (Nat.lt_of_lt_of_le l2 q.1)
  · rcases hw with q | q
    · exact Nat.ne_of_lt (Nat.lt_of_lt_of_le q.2 l1)
    · exact Nat.ne_of_gt (Nat.lt_of_lt_of_le l2 q.2)
  · obtain ⟨cl, A, -, S, N0, H, -⟩ := V
    refine ⟨cl, A, S, N0, fun j h1 h2 => ?_⟩
    have q1 := iv_nlt (k := 0) rfl h1
    have q2 := iv_lt (k := 1) rfl h2
    have e : j.toNatClampNeg = 0 := by rw [Int32.toNatClampNeg]; omega
    rw [e]
    exact H 0 (by rw [S]; decide)
def own_fn (ys : List Addr) (i : Nat) : Addr := ys.getD i 0
section Nm
variable {p : Program} {l : Launch} {e : Env} {R : Room} {s : State} {args : Array Value} {below : List Frame} {Z : State} {a0 : Array Value} {h : Heap}
theorem own_back {y : MethodName} {bytes : ByteArray} {maxL : Nat} {ret : Option FieldType} {rm : Room} {len W : Nat} {as' : Array Value} {Q : Option Value → Heap → List Loc → Prop}
    (hM : MetFree l y (head1 [Cond.code y bytes maxL ret] rm) (fun a U => a = as' ∧ Z.Warmed39 U.vm ∧ U.heap = h ∧ IB Z U.vm []) (fun _ _ _ _ _ => True) (fun _ U o U' => ∃ v L, o = .returned v ∧ Q v U'.heap L ∧ ReturnedEndW U o U' L rm.cells rm.slots))
    (hZ : Z.Warmed39 s.vm) (wc : (Cond.code y bytes maxL ret).before a0 Z = true) (wz : (Cond.initialized y.cls).before a0 Z = true) (hf : rm.frames + 1 ≤ R.frames) (hl : W + (maxL + 11) + rm.locals ≤ R.locals) :
    BackS l R p e below s args y len W (fun A a => a = as' ∧ A.U.heap = h ∧ (A.cells + rm.cells ≤ R.cells ∧ A.slots + rm.slots ≤ R.slots) ∧ IB Z A.U.vm []) (fun A _ v B => ∃ L, Q v B.U.heap L ∧ B.locs = A.locs ++ L ∧ B.cells = A.cells + rm.cells ∧ B.slots = A.slots + rm.slots) := by
  refine BackS.of_freeW (bytes := bytes) (maxL := maxL) (ret := ret) (E := fun _ _ o t L k n => ∃ v, o = .returned v ∧ Q v t.heap L ∧ k = rm.cells ∧ n = rm.slots) hM hf hl ?_ ?_ ?_ ?_ ?_
  · intro m meth c A a Y hp
    have hU : Z.Warmed39 A.U.vm := wtrans hZ Y.warmed
    refine ⟨?_, mv hU wc, mv hU wz, hp.2.2.1.1, hp.2.2.1.2⟩
    show (Cond.and _ .tt).before a A.U = true
    rw [Cond.before_and, mv hU wc]
    rfl
  · intro m meth c A a g mk Y hp
    exact ⟨hp.1, wtrans hZ Y.warmed, hp.2.1, hp.2.2.2⟩
  · intros
    trivial
  · rintro a first o t ⟨v, L, h1, h2, h3⟩
    exact ⟨L, _, _, h3, v, h1, h2, rfl, rfl⟩
  · rintro m meth c A a g mk v t L k n Y hp - - ⟨v', e1, e2, e3, e4⟩
    cases e1
    exact ⟨L, e2, rfl, by rw [e3], by rw [e4]⟩
end Nm
theorem own_strAtoms {a0 : Array Value} {Z : State} (hw : ∀ d ∈ tables_1, d.before a0 Z = true) : ∀ a ∈ Bundle.stringAtoms, a.before a0 Z = true := fun a ha =>
  hw a (by simpa using (List.all_eq_true.mp (by decide +kernel : (Bundle.stringAtoms.all fun c => tables_1.contains c) = true)) a ha)
def QNM (Z : State) (n : Nat) (h0 : Heap) (n0 : Nat) (v : Option Value) (h : Heap) (L : List Loc) : Prop := Fr n0 L ∧ ∃ (ns : Addr) (A : Nat → Addr), v = some (.ref ns) ∧ Ext h0 h ∧ RA Z h ns (.object "java/lang/String") (Int32.ofNat n) A ∧ ∀ i, i < n → StrIs Z h (A i) (own_ch i)
theorem d1_0 : decode method_2_code 0 = .ok (.iload_n 0, 1) := by decide +kernel
theorem d1_1 : decode method_2_code 1 = .ok (.ifCond .ne 8, 3) := by decide +kernel
theorem d1_4 : decode method_2_code 4 = .ok (.iconst 0, 1) := by decide +kernel
theorem d1_5 : decode method_2_code 5 = .ok (.anewarray 7, 3) := by decide +kernel
theorem d1_8 : decode method_2_code 8 = .ok (.areturn, 1) := by decide +kernel
theorem d1_9 : decode method_2_code 9 = .ok (.iload_n 0, 1) := by decide +kernel
theorem d1_10 : decode method_2_code 10 = .ok (.iconst 1, 1) := by decide +kernel
theorem d1_11 : decode method_2_code 11 = .ok (.if_icmp .ne 13, 3) := by decide +kernel
theorem d1_14 : decode method_2_code 14 = .ok (.iconst 1, 1) := by decide +kernel
theorem d1_15 : decode method_2_code 15 = .ok (.anewarray 7, 3) := by decide +kernel
theorem d1_18 : decode method_2_code 18 = .ok (.dup, 1) := by decide +kernel
theorem d1_19 : decode method_2_code 19 = .ok (.iconst 0, 1) := by decide +kernel
theorem d1_20 : decode method_2_code 20 = .ok (.ldc 9, 2) := by decide +kernel
theorem d1_22 : decode method_2_code 22 = .ok (.aastore, 1) := by decide +kernel
theorem d1_23 : decode method_2_code 23 = .ok (.areturn, 1) := by decide +kernel
theorem d1_24 : decode method_2_code 24 = .ok (.iload_n 0, 1) := by decide +kernel
theorem d1_25 : decode method_2_code 25 = .ok (.iconst 2, 1) := by decide +kernel
theorem d1_26 : decode method_2_code 26 = .ok (.if_icmp .ne 18, 3) := by decide +kernel
theorem d1_29 : decode method_2_code 29 = .ok (.iconst 2, 1) := by decide +kernel
theorem d1_30 : decode method_2_code 30 = .ok (.anewarray 7, 3) := by decide +kernel
theorem d1_33 : decode method_2_code 33 = .ok (.dup, 1) := by decide +kernel
theorem d1_34 : decode method_2_code 34 = .ok (.iconst 0, 1) := by decide +kernel
theorem d1_35 : decode method_2_code 35 = .ok (.ldc 9, 2) := by decide +kernel
theorem d1_37 : decode method_2_code 37 = .ok (.aastore, 1) := by decide +kernel
theorem d1_38 : decode method_2_code 38 = .ok (.dup, 1) := by decide +kernel
theorem d1_39 : decode method_2_code 39 = .ok (.iconst 1, 1) := by decide +kernel
theorem d1_40 : decode method_2_code 40 = .ok (.ldc 11, 2) := by decide +kernel
theorem d1_42 : decode method_2_code 42 = .ok (.aastore, 1) := by decide +kernel
theorem d1_43 : decode method_2_code 43 = .ok (.areturn, 1) := by decide +kernel
theorem d1_44 : decode method_2_code 44 = .ok (.iload_n 0, 1) := by decide +kernel
theorem d1_45 : decode method_2_code 45 = .ok (.iconst 3, 1) := by decide +kernel
theorem d1_46 : decode method_2_code 46 = .ok (.if_icmp .ne 23, 3) := by decide +kernel
theorem d1_49 : decode method_2_code 49 = .ok (.iconst 3, 1) := by decide +kernel
theorem d1_50 : decode method_2_code 50 = .ok (.anewarray 7, 3) := by decide +kernel
theorem d1_53 : decode method_2_code 53 = .ok (.dup, 1) := by decide +kernel
theorem d1_54 : decode method_2_code 54 = .ok (.iconst 0, 1) := by decide +kernel
theorem d1_55 : decode method_2_code 55 = .ok (.ldc 9, 2) := by decide +kernel
theorem d1_57 : decode method_2_code 57 = .ok (.aastore, 1) := by decide +kernel
theorem d1_58 : decode method_2_code 58 = .ok (.dup, 1) := by decide +kernel
theorem d1_59 : decode method_2_code 59 = .ok (.iconst 1, 1) := by decide +kernel
theorem d1_60 : decode method_2_code 60 = .ok (.ldc 11, 2) := by decide +kernel
theorem d1_62 : decode method_2_code 62 = .ok (.aastore, 1) := by decide +kernel
theorem d1_63 : decode method_2_code 63 = .ok (.dup, 1) := by decide +kernel
theorem d1_64 : decode method_2_code 64 = .ok (.iconst 2, 1) := by decide +kernel
theorem d1_65 : decode method_2_code 65 = .ok (.ldc 13, 2) := by decide +kernel
theorem d1_67 : decode method_2_code 67 = .ok (.aastore, 1) := by decide +kernel
theorem d1_68 : decode method_2_code 68 = .ok (.areturn, 1) := by decide +kernel
theorem d1_69 : decode method_2_code 69 = .ok (.iload_n 0, 1) := by decide +kernel
theorem d1_70 : decode method_2_code 70 = .ok (.iconst 4, 1) := by decide +kernel
theorem d1_71 : decode method_2_code 71 = .ok (.if_icmp .ne 28, 3) := by decide +kernel
theorem d1_74 : decode method_2_code 74 = .ok (.iconst 4, 1) := by decide +kernel
theorem d1_75 : decode method_2_code 75 = .ok (.anewarray 7, 3) := by decide +kernel
theorem d1_78 : decode method_2_code 78 = .ok (.dup, 1) := by decide +kernel
theorem d1_79 : decode method_2_code 79 = .ok (.iconst 0, 1) := by decide +kernel
theorem d1_80 : decode method_2_code 80 = .ok (.ldc 9, 2) := by decide +kernel
theorem d1_82 : decode method_2_code 82 = .ok (.aastore, 1) := by decide +kernel
theorem d1_83 : decode method_2_code 83 = .ok (.dup, 1) := by decide +kernel
theorem d1_84 : decode method_2_code 84 = .ok (.iconst 1, 1) := by decide +kernel
theorem d1_85 : decode method_2_code 85 = .ok (.ldc 11, 2) := by decide +kernel
theorem d1_87 : decode method_2_code 87 = .ok (.aastore, 1) := by decide +kernel
theorem d1_88 : decode method_2_code 88 = .ok (.dup, 1) := by decide +kernel
theorem d1_89 : decode method_2_code 89 = .ok (.iconst 2, 1) := by decide +kernel
theorem d1_90 : decode method_2_code 90 = .ok (.ldc 13, 2) := by decide +kernel
theorem d1_92 : decode method_2_code 92 = .ok (.aastore, 1) := by decide +kernel
theorem d1_93 : decode method_2_code 93 = .ok (.dup, 1) := by decide +kernel
theorem d1_94 : decode method_2_code 94 = .ok (.iconst 3, 1) := by decide +kernel
theorem d1_95 : decode method_2_code 95 = .ok (.ldc 15, 2) := by decide +kernel
theorem d1_97 : decode method_2_code 97 = .ok (.aastore, 1) := by decide +kernel
theorem d1_98 : decode method_2_code 98 = .ok (.areturn, 1) := by decide +kernel
theorem d1_99 : decode method_2_code 99 = .ok (.iconst 5, 1) := by decide +kernel
theorem d1_100 : decode method_2_code 100 = .ok (.anewarray 7, 3) := by decide +kernel
theorem d1_103 : decode method_2_code 103 = .ok (.dup, 1) := by decide +kernel
theorem d1_104 : decode method_2_code 104 = .ok (.iconst 0, 1) := by decide +kernel
theorem d1_105 : decode method_2_code 105 = .ok (.ldc 9, 2) := by decide +kernel
theorem d1_107 : decode method_2_code 107 = .ok (.aastore, 1) := by decide +kernel
theorem d1_108 : decode method_2_code 108 = .ok (.dup, 1) := by decide +kernel
theorem d1_109 : decode method_2_code 109 = .ok (.iconst 1, 1) := by decide +kernel
theorem d1_110 : decode method_2_code 110 = .ok (.ldc 11, 2) := by decide +kernel
theorem d1_112 : decode method_2_code 112 = .ok (.aastore, 1) := by decide +kernel
theorem d1_113 : decode method_2_code 113 = .ok (.dup, 1) := by decide +kernel
theorem d1_114 : decode method_2_code 114 = .ok (.iconst 2, 1) := by decide +kernel
theorem d1_115 : decode method_2_code 115 = .ok (.ldc 13, 2) := by decide +kernel
theorem d1_117 : decode method_2_code 117 = .ok (.aastore, 1) := by decide +kernel
theorem d1_118 : decode method_2_code 118 = .ok (.dup, 1) := by decide +kernel
theorem d1_119 : decode method_2_code 119 = .ok (.iconst 3, 1) := by decide +kernel
theorem d1_120 : decode method_2_code 120 = .ok (.ldc 15, 2) := by decide +kernel
theorem d1_122 : decode method_2_code 122 = .ok (.aastore, 1) := by decide +kernel
theorem d1_123 : decode method_2_code 123 = .ok (.dup, 1) := by decide +kernel
theorem d1_124 : decode method_2_code 124 = .ok (.iconst 4, 1) := by decide +kernel
theorem d1_125 : decode method_2_code 125 = .ok (.ldc 17, 2) := by decide +kernel
theorem d1_127 : decode method_2_code 127 = .ok (.aastore, 1) := by decide +kernel
theorem d1_128 : decode method_2_code 128 = .ok (.areturn, 1) := by decide +kernel
theorem pn_1 : plainName "com/example/grantline/grantline/engine/ActionsImpliedMaskPinLaw" = true := by first | (simp [plainName, overriddenIn]; done) | decide +kernel
theorem ef_rm_nms_0 (m : MethodId) (x0 : Int32) : entryFrame m #[(.int x0)] 1 = mkF m 0 #[.val (.int x0)] [] := by first | (simp [entryFrame, mkF, argsToLocals, Value.category]; done) | rfl
set_option maxRecDepth 65536 in
set_option maxHeartbeats 40000000 in
theorem rm_nms_0 (l : Launch) (Z : State) (a0 : Array Value) (hw : ∀ d ∈ tables_1, d.before a0 Z = true) (ws : List Jvm.Cond)   (h0 : Heap) (n0 : Nat) (Z0 : n0 ≤ h0.size) (hn0 : n0 = h0.size) (hZ0 : Z.heap = h0) (hH9 : Jvm.Lit.constHeld Z "com/example/grantline/grantline/engine/ActionsImpliedMaskPinLaw" 9) (hH11 : Jvm.Lit.constHeld Z "com/example/grantline/grantline/engine/ActionsImpliedMaskPinLaw" 11) (hH13 : Jvm.Lit.constHeld Z "com/example/grantline/grantline/engine/ActionsImpliedMaskPinLaw" 13) (hH15 : Jvm.Lit.constHeld Z "com/example/grantline/grantline/engine/ActionsImpliedMaskPinLaw" 15) (hH17 : Jvm.Lit.constHeld Z "com/example/grantline/grantline/engine/ActionsImpliedMaskPinLaw" 17) (hcw : Jvm.Lit.compactW.before a0 Z = true) :
    MetFree l (⟨"com/example/grantline/grantline/engine/ActionsImpliedMaskPinLaw", "names", "(I)[Ljava/lang/String;"⟩ : MethodName) (head1 (Jvm.Cond.code (⟨"com/example/grantline/grantline/engine/ActionsImpliedMaskPinLaw", "names", "(I)[Ljava/lang/String;"⟩ : MethodName) method_2_code 1 (some (.array (.object "java/lang/String"))) :: ws) ({ frames := 0, cells := 11, slots := 45, locals := 0 } : Room)) (fun aQ U => aQ = #[(.int (0 : Int32))] ∧ Z.Warmed39 U.vm ∧ U.heap = h0 ∧ IB Z U.vm []) (fun _ _ _ _ _ => True) (fun _ U o U' => ∃ vQ LQ, o = .returned vQ ∧ QNM Z 0 h0 n0 vQ U'.heap LQ ∧ ReturnedEndW U o U' LQ ({ frames := 0, cells := 11, slots := 45, locals := 0 } : Room).cells ({ frames := 0, cells := 11, slots := 45, locals := 0 } : Room).slots) := by
  refine MetFree.of_bodySF (plainFor_of_name pn_1) hisR ?_
  intro p e s m args below meth c s₁ Bd hml0 hP hK
  obtain ⟨rfl, hZ, hh, hIB⟩ := hP
  have hx := Bd.exec
  have hby := Bd.bytes
  have hml : c.maxLocals = 1 := hml0
  have hown : s.vm.findClass "com/example/grantline/grantline/engine/ActionsImpliedMaskPinLaw" = some m.cls := findClass_of_methodNamed Bd.named
  have hnm := (name_of_methodNamed Bd.named Bd.method).1
  have X0 : Stand p l e ({ frames := 0, cells := 11, slots := 45, locals := 0 } : Room) s m #[(.int (0 : Int32))] below meth c s₁ [] 0 0 := Stand.of_body Bd
  have e0 : s₁.heap = h0 := by rw [← hh, Bd.state]; rfl
  have NF := Fr.nil n0
  have OLD : Ext h0 h0 := own_erefl h0
  have hS : s.Since s.vm 0 := (State.WarmedH.refl s).since 0
  have hk : 0 ≤ h0.size := Nat.zero_le _
  have hsz : s.heap.size = n0 := by rw [hh, hn0]
  refine Gl.out ?_
  refine Gl.go ?_ (fun t k => castTop (ef_rm_nms_0 m (0 : Int32)) k)
  show Gl _ _ _ _ (s₁.setTop (mkF m 0 _ []))
  refine Gl.go ?_ (fun t k => XS.iloadN X0.here hx rfl (hb hby d1_0) rfl k)
  show Gl _ _ _ _ (s₁.setTop (mkF m 1 _ [(.int (0 : Int32))]))
  refine Gl.go ?_ (fun t k => XS.ifNo X0.here hx rfl (hb hby d1_1) rfl ((if0 _ _).trans (teq (by decide : (0 : Int32) = (0 : Int32))).2) k)
  show Gl _ _ _ _ (s₁.setTop (mkF m 4 _ []))
  refine Gl.go ?_ (fun t k => XS.iconst X0.here hx rfl (hb hby d1_4) k)
  show Gl _ _ _ _ (s₁.setTop (mkF m 5 #[.val (.int (0 : Int32))] [(.int (0 : Int32))]))
  obtain ⟨T185, h185, k185, X185, e185, E185, A185, O185, st185⟩ := newR X0 hx hZ hown (hw _ (List.mem_of_getElem? (i := 4) rfl)) (hw _ (List.mem_of_getElem? (i := 5) rfl)) e0 (g := (mkF m 5 #[.val (.int (0 : Int32))] [(.int (0 : Int32))])) rfl (hb hby d1_5) rfl (by decide) (cap := 0) (by decide) (by decide) (by decide) (by decide)
  obtain ⟨b185, g185⟩ : ∃ z, z = h0.size := ⟨_, rfl⟩
  rw [← g185] at A185 st185
  have g_b185 : n0 ≤ b185 := Nat.le_trans Z0 (Nat.le_of_eq g185.symm)
  have sz_b185 : (h0).size ≤ b185 := Nat.le_trans OLD.1 (Nat.le_of_eq g185.symm)
  have hi_b185 := Nat.le_trans hk (Nat.le_of_eq g185.symm)
  replace OLD := own_oext OLD E185
  replace hk := Nat.le_trans hk E185.1
  replace Z0 := Nat.le_trans Z0 E185.1
  have V_b185 : Arv Z h185 b185 k185 (.object "java/lang/String") (0 : Int32) [] .null := (Arv.new A185 (by decide)).pad (pad_rep [] .null 0)
  refine Gl.go ?_ st185
  show Gl _ _ _ _ (T185.setTop (mkF m 8 _ [(.ref b185)]))
  obtain ⟨fs, hr, hrun, hended, -, hW, hpp, hsame⟩ := Stand.leaveW (s := s) (vm₁ := s.vm) X185 hS (by rw [e185]; exact hk) (v := some (.ref b185)) (fun h => by rw [Bd.returns] at h; cases h) (BodyLoose.notSynchronized Bd)
  exact Gl.mk ⟨_, _, retOut X185 hx Bd.returns rfl (Or.inr (Or.inr (Or.inr (Or.inr ⟨rfl, rfl, rfl⟩)))) (hb hby d1_8) hr, hrun, hended, _, _, rfl, own_cast (P := fun H v L => QNM Z 0 h0 n0 v H L) e185 ⟨NF, b185, (own_fn []), rfl, OLD, RA.of V_b185 0 rfl (own_lt0 ), own_lt0 ⟩, ⟨_, rfl⟩, hW, hpp, hsame.mono (by decide) (by decide)⟩
theorem ef_rm_nms_1 (m : MethodId) (x0 : Int32) : entryFrame m #[(.int x0)] 1 = mkF m 0 #[.val (.int x0)] [] := by first | (simp [entryFrame, mkF, argsToLocals, Value.category]; done) | rfl
set_option maxRecDepth 65536 in
set_option maxHeartbeats 40000000 in
theorem rm_nms_1 (l : Launch) (Z : State) (a0 : Array Value) (hw : ∀ d ∈ tables_1, d.before a0 Z = true) (ws : List Jvm.Cond)   (h0 : Heap) (n0 : Nat) (Z0 : n0 ≤ h0.size) (hn0 : n0 = h0.size) (hZ0 : Z.heap = h0) (hH9 : Jvm.Lit.constHeld Z "com/example/grantline/grantline/engine/ActionsImpliedMaskPinLaw" 9) (hH11 : Jvm.Lit.constHeld Z "com/example/grantline/grantline/engine/ActionsImpliedMaskPinLaw" 11) (hH13 : Jvm.Lit.constHeld Z "com/example/grantline/grantline/engine/ActionsImpliedMaskPinLaw" 13) (hH15 : Jvm.Lit.constHeld Z "com/example/grantline/grantline/engine/ActionsImpliedMaskPinLaw" 15) (hH17 : Jvm.Lit.constHeld Z "com/example/grantline/grantline/engine/ActionsImpliedMaskPinLaw" 17) (hcw : Jvm.Lit.compactW.before a0 Z = true) :
    MetFree l (⟨"com/example/grantline/grantline/engine/ActionsImpliedMaskPinLaw", "names", "(I)[Ljava/lang/String;"⟩ : MethodName) (head1 (Jvm.Cond.code (⟨"com/example/grantline/grantline/engine/ActionsImpliedMaskPinLaw", "names", "(I)[Ljava/lang/String;"⟩ : MethodName) method_2_code 1 (some (.array (.object "java/lang/String"))) :: ws) ({ frames := 0, cells := 11, slots := 45, locals := 0 } : Room)) (fun aQ U => aQ = #[(.int (1 : Int32))] ∧ Z.Warmed39 U.vm ∧ U.heap = h0 ∧ IB Z U.vm []) (fun _ _ _ _ _ => True) (fun _ U o U' => ∃ vQ LQ, o = .returned vQ ∧ QNM Z 1 h0 n0 vQ U'.heap LQ ∧ ReturnedEndW U o U' LQ ({ frames := 0, cells := 11, slots := 45, locals := 0 } : Room).cells ({ frames := 0, cells := 11, slots := 45, locals := 0 } : Room).slots) := by
  refine MetFree.of_bodySF (plainFor_of_name pn_1) hisR ?_
  intro p e s m args below meth c s₁ Bd hml0 hP hK
  obtain ⟨rfl, hZ, hh, hIB⟩ := hP
  have hx := Bd.exec
  have hby := Bd.bytes
  have hml : c.maxLocals = 1 := hml0
  have hown : s.vm.findClass "com/example/grantline/grantline/engine/ActionsImpliedMaskPinLaw" = some m.cls := findClass_of_methodNamed Bd.named
  have hnm := (name_of_methodNamed Bd.named Bd.method).1
  have X0 : Stand p l e ({ frames := 0, cells := 11, slots := 45, locals := 0 } : Room) s m #[(.int (1 : Int32))] below meth c s₁ [] 0 0 := Stand.of_body Bd
  have e0 : s₁.heap = h0 := by rw [← hh, Bd.state]; rfl
  have NF := Fr.nil n0
  have OLD : Ext h0 h0 := own_erefl h0
  have hS : s.Since s.vm 0 := (State.WarmedH.refl s).since 0
  have hk : 0 ≤ h0.size := Nat.zero_le _
  have hsz : s.heap.size = n0 := by rw [hh, hn0]
  refine Gl.out ?_
  refine Gl.go ?_ (fun t k => castTop (ef_rm_nms_1 m (1 : Int32)) k)
  show Gl _ _ _ _ (s₁.setTop (mkF m 0 _ []))
  refine Gl.go ?_ (fun t k => XS.iloadN X0.here hx rfl (hb hby d1_0) rfl k)
  show Gl _ _ _ _ (s₁.setTop (mkF m 1 _ [(.int (1 : Int32))]))
  refine Gl.go ?_ (fun t k => XS.ifYes X0.here hx rfl (pc0 := 1) (pc' := 9) rfl (hb hby d1_1) rfl ((if0 _ _).trans (feq (by decide : ¬ ((1 : Int32) = (0 : Int32)))).2) (by decide) (by decide) k)
  show Gl _ _ _ _ (s₁.setTop (mkF m 9 _ []))
  refine Gl.go ?_ (fun t k => XS.iloadN X0.here hx rfl (hb hby d1_9) rfl k)
  show Gl _ _ _ _ (s₁.setTop (mkF m 10 _ [(.int (1 : Int32))]))
  refine Gl.go ?_ (fun t k => XS.iconst X0.here hx rfl (hb hby d1_10) k)
  show Gl _ _ _ _ (s₁.setTop (mkF m 11 _ [(.int (1 : Int32)), (.int (1 : Int32))]))
  refine Gl.go ?_ (fun t k => XS.icmpNo X0.here hx rfl (hb hby d1_11) rfl (teq (by decide : (1 : Int32) = (1 : Int32))).2 k)
  show Gl _ _ _ _ (s₁.setTop (mkF m 14 _ []))
  refine Gl.go ?_ (fun t k => XS.iconst X0.here hx rfl (hb hby d1_14) k)
  show Gl _ _ _ _ (s₁.setTop (mkF m 15 #[.val (.int (1 : Int32))] [(.int (1 : Int32))]))
  obtain ⟨T186, h186, k186, X186, e186, E186, A186, O186, st186⟩ := newR X0 hx hZ hown (hw _ (List.mem_of_getElem? (i := 4) rfl)) (hw _ (List.mem_of_getElem? (i := 5) rfl)) e0 (g := (mkF m 15 #[.val (.int (1 : Int32))] [(.int (1 : Int32))])) rfl (hb hby d1_15) rfl (by decide) (cap := 1) (by decide) (by decide) (by decide) (by decide)
  obtain ⟨b186, g186⟩ : ∃ z, z = h0.size := ⟨_, rfl⟩
  rw [← g186] at A186 st186
  have g_b186 : n0 ≤ b186 := Nat.le_trans Z0 (Nat.le_of_eq g186.symm)
  have sz_b186 : (h0).size ≤ b186 := Nat.le_trans OLD.1 (Nat.le_of_eq g186.symm)
  have hi_b186 := Nat.le_trans hk (Nat.le_of_eq g186.symm)
  replace OLD := own_oext OLD E186
  replace hk := Nat.le_trans hk E186.1
  replace Z0 := Nat.le_trans Z0 E186.1
  have V_b186 : Arv Z h186 b186 k186 (.object "java/lang/String") (1 : Int32) [.null] .null := (Arv.new A186 (by decide)).pad (pad_rep [] .null 1)
  refine Gl.go ?_ st186
  show Gl _ _ _ _ (T186.setTop (mkF m 18 _ [(.ref b186)]))
  refine Gl.go ?_ (fun t k => XS.dup X186.here hx rfl (hb hby d1_18) rfl rfl k)
  show Gl _ _ _ _ (T186.setTop (mkF m 19 _ [(.ref b186), (.ref b186)]))
  refine Gl.go ?_ (fun t k => XS.iconst X186.here hx rfl (hb hby d1_19) k)
  show Gl _ _ _ _ (T186.setTop (mkF m 20 #[.val (.int (1 : Int32))] [(.int (0 : Int32)), (.ref b186), (.ref b186)]))
  obtain ⟨a187, T187, h187, k187, v187, c187, X187, e187, E187, S187, hk187, hZ187, ho187, q187a, q187b, q187c, q187d, -, -, I187, -, wh187, st187⟩ := ldcSVd (s := s) (vm0 := s.vm) X186 hx hZ hown (hw _ (List.mem_of_getElem? (i := 6) rfl)) (own_strAtoms hw) e186 hS hk (by rw [hsz]; exact NF) (fun b cl q => by rw [hh, ← hZ0]; exact q) hIB (by decide) hH9 hcw (vs := [.int (own_ch 0)]) (z := 1) ⟨by decide, rfl⟩ (by decide) rfl (g := (mkF m 20 #[.val (.int (1 : Int32))] [(.int (0 : Int32)), (.ref b186), (.ref b186)])) rfl (hb hby d1_20) (n := 4) (by decide) (by decide) (by decide) (by decide)
  have F_a187 : StrO Z b186 (own_ch 0) h187 a187 := StrO.mk' q187a q187b q187c q187d wh187 (by rw [hsz]; exact g_b186) V_b186.lt
  replace OLD := own_oext OLD E187
  replace hk := Nat.le_trans hk E187.1
  replace V_b186 := V_b186.ext E187
  replace Z0 := Nat.le_trans Z0 E187.1
  replace hS := S187
  replace hk := hk187
  replace hZ := hZ187
  replace hown := ho187
  replace hIB := I187
  clear q187a q187b q187c q187d wh187
  refine Gl.go ?_ st187
  show Gl _ _ _ _ (T187.setTop (mkF m 22 #[.val (.int (1 : Int32))] [(.ref a187), (.int (0 : Int32)), (.ref b186), (.ref b186)]))
  obtain ⟨cl188, Ar188, q188, S188, N188, Hh188, G188⟩ := V_b186
  obtain ⟨T188, h188, X188, e188, W188, st188⟩ := stR X187 hx hZ e187 Ar188 (j := (0 : Int32)) (inb_of S188 ⟨by decide, by decide⟩) rfl (Sto.ofV Ar188 q188 O186 (Ins.self F_a187.2.1)) (g := (mkF m 22 #[.val (.int (1 : Int32))] [(.ref a187), (.int (0 : Int32)), (.ref b186), (.ref b186)])) rfl rfl (hb hby d1_22)
  replace OLD := own_owr OLD W188 sz_b186
  replace hk := Nat.le_trans hk (Keep.of_wr W188).1
  replace F_a187 := F_a187.wr W188
  replace Z0 := Nat.le_trans Z0 (Keep.of_wr W188).1
  have V_b186 : Arv Z h188 b186 k186 (.object "java/lang/String") (1 : Int32) [(.ref a187)] .null := Arv.set Ar188 q188 S188 N188 Hh188 G188 rfl W188 0 rfl (Nat.le_of_ble_eq_true rfl)
  clear Hh188 G188 N188 S188 q188 W188
  clear Ar188
  clear cl188
  replace NF := Fr.snoc X188 NF g_b186
  refine Gl.go ?_ st188
  show Gl _ _ _ _ (T188.setTop (mkF m 23 _ [(.ref b186)]))
  obtain ⟨fs, hr, hrun, hended, -, hW, hpp, hsame⟩ := Stand.leaveW (s := s) (vm₁ := T187.vm) X188 hS (by rw [e188]; exact hk) (v := some (.ref b186)) (fun h => by rw [Bd.returns] at h; cases h) (BodyLoose.notSynchronized Bd)
  exact Gl.mk ⟨_, _, retOut X188 hx Bd.returns rfl (Or.inr (Or.inr (Or.inr (Or.inr ⟨rfl, rfl, rfl⟩)))) (hb hby d1_23) hr, hrun, hended, _, _, rfl, own_cast (P := fun H v L => QNM Z 1 h0 n0 v H L) e188 ⟨NF, b186, (own_fn [a187]), rfl, OLD, RA.of V_b186 1 rfl (own_lt1 rfl), own_lt1 F_a187.is⟩, ⟨_, rfl⟩, hW, hpp, hsame.mono (by decide) (by decide)⟩
theorem ef_rm_nms_2 (m : MethodId) (x0 : Int32) : entryFrame m #[(.int x0)] 1 = mkF m 0 #[.val (.int x0)] [] := by first | (simp [entryFrame, mkF, argsToLocals, Value.category]; done) | rfl
set_option maxRecDepth 65536 in
set_option maxHeartbeats 40000000 in
theorem rm_nms_2 (l : Launch) (Z : State) (a0 : Array Value) (hw : ∀ d ∈ tables_1, d.before a0 Z = true) (ws : List Jvm.Cond)   (h0 : Heap) (n0 : Nat) (Z0 : n0 ≤ h0.size) (hn0 : n0 = h0.size) (hZ0 : Z.heap = h0) (hH9 : Jvm.Lit.constHeld Z "com/example/grantline/grantline/engine/ActionsImpliedMaskPinLaw" 9) (hH11 : Jvm.Lit.constHeld Z "com/example/grantline/grantline/engine/ActionsImpliedMaskPinLaw" 11) (hH13 : Jvm.Lit.constHeld Z "com/example/grantline/grantline/engine/ActionsImpliedMaskPinLaw" 13) (hH15 : Jvm.Lit.constHeld Z "com/example/grantline/grantline/engine/ActionsImpliedMaskPinLaw" 15) (hH17 : Jvm.Lit.constHeld Z "com/example/grantline/grantline/engine/ActionsImpliedMaskPinLaw" 17) (hcw : Jvm.Lit.compactW.before a0 Z = true) :
    MetFree l (⟨"com/example/grantline/grantline/engine/ActionsImpliedMaskPinLaw", "names", "(I)[Ljava/lang/String;"⟩ : MethodName) (head1 (Jvm.Cond.code (⟨"com/example/grantline/grantline/engine/ActionsImpliedMaskPinLaw", "names", "(I)[Ljava/lang/String;"⟩ : MethodName) method_2_code 1 (some (.array (.object "java/lang/String"))) :: ws) ({ frames := 0, cells := 11, slots := 45, locals := 0 } : Room)) (fun aQ U => aQ = #[(.int (2 : Int32))] ∧ Z.Warmed39 U.vm ∧ U.heap = h0 ∧ IB Z U.vm []) (fun _ _ _ _ _ => True) (fun _ U o U' => ∃ vQ LQ, o = .returned vQ ∧ QNM Z 2 h0 n0 vQ U'.heap LQ ∧ ReturnedEndW U o U' LQ ({ frames := 0, cells := 11, slots := 45, locals := 0 } : Room).cells ({ frames := 0, cells := 11, slots := 45, locals := 0 } : Room).slots) := by
  refine MetFree.of_bodySF (plainFor_of_name pn_1) hisR ?_
  intro p e s m args below meth c s₁ Bd hml0 hP hK
  obtain ⟨rfl, hZ, hh, hIB⟩ := hP
  have hx := Bd.exec
  have hby := Bd.bytes
  have hml : c.maxLocals = 1 := hml0
  have hown : s.vm.findClass "com/example/grantline/grantline/engine/ActionsImpliedMaskPinLaw" = some m.cls := findClass_of_methodNamed Bd.named
  have hnm := (name_of_methodNamed Bd.named Bd.method).1
  have X0 : Stand p l e ({ frames := 0, cells := 11, slots := 45, locals := 0 } : Room) s m #[(.int (2 : Int32))] below meth c s₁ [] 0 0 := Stand.of_body Bd
  have e0 : s₁.heap = h0 := by rw [← hh, Bd.state]; rfl
  have NF := Fr.nil n0
  have OLD : Ext h0 h0 := own_erefl h0
  have hS : s.Since s.vm 0 := (State.WarmedH.refl s).since 0
  have hk : 0 ≤ h0.size := Nat.zero_le _
  have hsz : s.heap.size = n0 := by rw [hh, hn0]
  refine Gl.out ?_
  refine Gl.go ?_ (fun t k => castTop (ef_rm_nms_2 m (2 : Int32)) k)
  show Gl _ _ _ _ (s₁.setTop (mkF m 0 _ []))
  refine Gl.go ?_ (fun t k => XS.iloadN X0.here hx rfl (hb hby d1_0) rfl k)
  show Gl _ _ _ _ (s₁.setTop (mkF m 1 _ [(.int (2 : Int32))]))
  refine Gl.go ?_ (fun t k => XS.ifYes X0.here hx rfl (pc0 := 1) (pc' := 9) rfl (hb hby d1_1) rfl ((if0 _ _).trans (feq (by decide : ¬ ((2 : Int32) = (0 : Int32)))).2) (by decide) (by decide) k)
  show Gl _ _ _ _ (s₁.setTop (mkF m 9 _ []))
  refine Gl.go ?_ (fun t k => XS.iloadN X0.here hx rfl (hb hby d1_9) rfl k)
  show Gl _ _ _ _ (s₁.setTop (mkF m 10 _ [(.int (2 : Int32))]))
  refine Gl.go ?_ (fun t k => XS.iconst X0.here hx rfl (hb hby d1_10) k)
  show Gl _ _ _ _ (s₁.setTop (mkF m 11 _ [(.int (1 : Int32)), (.int (2 : Int32))]))
  refine Gl.go ?_ (fun t k => XS.icmpYes X0.here hx rfl (pc0 := 11) (pc' := 24) rfl (hb hby d1_11) rfl (feq (by decide : ¬ ((2 : Int32) = (1 : Int32)))).2 (by decide) (by decide) k)
  show Gl _ _ _ _ (s₁.setTop (mkF m 24 _ []))
  refine Gl.go ?_ (fun t k => XS.iloadN X0.here hx rfl (hb hby d1_24) rfl k)
  show Gl _ _ _ _ (s₁.setTop (mkF m 25 _ [(.int (2 : Int32))]))
  refine Gl.go ?_ (fun t k => XS.iconst X0.here hx rfl (hb hby d1_25) k)
  show Gl _ _ _ _ (s₁.setTop (mkF m 26 _ [(.int (2 : Int32)), (.int (2 : Int32))]))
  refine Gl.go ?_ (fun t k => XS.icmpNo X0.here hx rfl (hb hby d1_26) rfl (teq (by decide : (2 : Int32) = (2 : Int32))).2 k)
  show Gl _ _ _ _ (s₁.setTop (mkF m 29 _ []))
  refine Gl.go ?_ (fun t k => XS.iconst X0.here hx rfl (hb hby d1_29) k)
  show Gl _ _ _ _ (s₁.setTop (mkF m 30 #[.val (.int (2 : Int32))] [(.int (2 : Int32))]))
  obtain ⟨T189, h189, k189, X189, e189, E189, A189, O189, st189⟩ := newR X0 hx hZ hown (hw _ (List.mem_of_getElem? (i := 4) rfl)) (hw _ (List.mem_of_getElem? (i := 5) rfl)) e0 (g := (mkF m 30 #[.val (.int (2 : Int32))] [(.int (2 : Int32))])) rfl (hb hby d1_30) rfl (by decide) (cap := 2) (by decide) (by decide) (by decide) (by decide)
  obtain ⟨b189, g189⟩ : ∃ z, z = h0.size := ⟨_, rfl⟩
  rw [← g189] at A189 st189
  have g_b189 : n0 ≤ b189 := Nat.le_trans Z0 (Nat.le_of_eq g189.symm)
  have sz_b189 : (h0).size ≤ b189 := Nat.le_trans OLD.1 (Nat.le_of_eq g189.symm)
  have hi_b189 := Nat.le_trans hk (Nat.le_of_eq g189.symm)
  replace OLD := own_oext OLD E189
  replace hk := Nat.le_trans hk E189.1
  replace Z0 := Nat.le_trans Z0 E189.1
  have V_b189 : Arv Z h189 b189 k189 (.object "java/lang/String") (2 : Int32) [.null, .null] .null := (Arv.new A189 (by decide)).pad (pad_rep [] .null 2)
  refine Gl.go ?_ st189
  show Gl _ _ _ _ (T189.setTop (mkF m 33 _ [(.ref b189)]))
  refine Gl.go ?_ (fun t k => XS.dup X189.here hx rfl (hb hby d1_33) rfl rfl k)
  show Gl _ _ _ _ (T189.setTop (mkF m 34 _ [(.ref b189), (.ref b189)]))
  refine Gl.go ?_ (fun t k => XS.iconst X189.here hx rfl (hb hby d1_34) k)
  show Gl _ _ _ _ (T189.setTop (mkF m 35 #[.val (.int (2 : Int32))] [(.int (0 : Int32)), (.ref b189), (.ref b189)]))
  obtain ⟨a190, T190, h190, k190, v190, c190, X190, e190, E190, S190, hk190, hZ190, ho190, q190a, q190b, q190c, q190d, -, -, I190, -, wh190, st190⟩ := ldcSVd (s := s) (vm0 := s.vm) X189 hx hZ hown (hw _ (List.mem_of_getElem? (i := 6) rfl)) (own_strAtoms hw) e189 hS hk (by rw [hsz]; exact NF) (fun b cl q => by rw [hh, ← hZ0]; exact q) hIB (by decide) hH9 hcw (vs := [.int (own_ch 0)]) (z := 1) ⟨by decide, rfl⟩ (by decide) rfl (g := (mkF m 35 #[.val (.int (2 : Int32))] [(.int (0 : Int32)), (.ref b189), (.ref b189)])) rfl (hb hby d1_35) (n := 4) (by decide) (by decide) (by decide) (by decide)
  have F_a190 : StrO Z b189 (own_ch 0) h190 a190 := StrO.mk' q190a q190b q190c q190d wh190 (by rw [hsz]; exact g_b189) V_b189.lt
  replace OLD := own_oext OLD E190
  replace hk := Nat.le_trans hk E190.1
  replace V_b189 := V_b189.ext E190
  replace Z0 := Nat.le_trans Z0 E190.1
  replace hS := S190
  replace hk := hk190
  replace hZ := hZ190
  replace hown := ho190
  replace hIB := I190
  clear q190a q190b q190c q190d wh190
  refine Gl.go ?_ st190
  show Gl _ _ _ _ (T190.setTop (mkF m 37 #[.val (.int (2 : Int32))] [(.ref a190), (.int (0 : Int32)), (.ref b189), (.ref b189)]))
  obtain ⟨cl191, Ar191, q191, S191, N191, Hh191, G191⟩ := V_b189
  obtain ⟨T191, h191, X191, e191, W191, st191⟩ := stR X190 hx hZ e190 Ar191 (j := (0 : Int32)) (inb_of S191 ⟨by decide, by decide⟩) rfl (Sto.ofV Ar191 q191 O189 (Ins.self F_a190.2.1)) (g := (mkF m 37 #[.val (.int (2 : Int32))] [(.ref a190), (.int (0 : Int32)), (.ref b189), (.ref b189)])) rfl rfl (hb hby d1_37)
  replace OLD := own_owr OLD W191 sz_b189
  replace hk := Nat.le_trans hk (Keep.of_wr W191).1
  replace F_a190 := F_a190.wr W191
  replace Z0 := Nat.le_trans Z0 (Keep.of_wr W191).1
  have V_b189 : Arv Z h191 b189 k189 (.object "java/lang/String") (2 : Int32) [(.ref a190), .null] .null := Arv.set Ar191 q191 S191 N191 Hh191 G191 rfl W191 0 rfl (Nat.le_of_ble_eq_true rfl)
  clear Hh191 G191 N191 S191 q191 W191
  clear Ar191
  clear cl191
  replace NF := Fr.snoc X191 NF g_b189
  refine Gl.go ?_ st191
  show Gl _ _ _ _ (T191.setTop (mkF m 38 _ [(.ref b189)]))
  refine Gl.go ?_ (fun t k => XS.dup X191.here hx rfl (hb hby d1_38) rfl rfl k)
  show Gl _ _ _ _ (T191.setTop (mkF m 39 _ [(.ref b189), (.ref b189)]))
  refine Gl.go ?_ (fun t k => XS.iconst X191.here hx rfl (hb hby d1_39) k)
  show Gl _ _ _ _ (T191.setTop (mkF m 40 #[.val (.int (2 : Int32))] [(.int (1 : Int32)), (.ref b189), (.ref b189)]))
  obtain ⟨a192, T192, h192, k192, v192, c192, X192, e192, E192, S192, hk192, hZ192, ho192, q192a, q192b, q192c, q192d, -, -, I192, -, wh192, st192⟩ := ldcSVd (s := s) (vm0 := T190.vm) X191 hx hZ hown (hw _ (List.mem_of_getElem? (i := 15) rfl)) (own_strAtoms hw) e191 hS hk (by rw [hsz]; exact NF) (fun b cl q => by rw [hh, ← hZ0]; exact q) hIB (by decide) hH11 hcw (vs := [.int (own_ch 1)]) (z := 1) ⟨by decide, rfl⟩ (by decide) rfl (g := (mkF m 40 #[.val (.int (2 : Int32))] [(.int (1 : Int32)), (.ref b189), (.ref b189)])) rfl (hb hby d1_40) (n := 4) (by decide) (by decide) (by decide) (by decide)
  have F_a192 : StrO Z b189 (own_ch 1) h192 a192 := StrO.mk' q192a q192b q192c q192d wh192 (by rw [hsz]; exact g_b189) V_b189.lt
  replace OLD := own_oext OLD E192
  replace hk := Nat.le_trans hk E192.1
  replace F_a190 := F_a190.ext E192
  replace V_b189 := V_b189.ext E192
  replace Z0 := Nat.le_trans Z0 E192.1
  replace hS := S192
  replace hk := hk192
  replace hZ := hZ192
  replace hown := ho192
  replace hIB := I192
  clear q192a q192b q192c q192d wh192
  refine Gl.go ?_ st192
  show Gl _ _ _ _ (T192.setTop (mkF m 42 #[.val (.int (2 : Int32))] [(.ref a192), (.int (1 : Int32)), (.ref b189), (.ref b189)]))
  obtain ⟨cl193, Ar193, q193, S193, N193, Hh193, G193⟩ := V_b189
  obtain ⟨T193, h193, X193, e193, W193, st193⟩ := stR X192 hx hZ e192 Ar193 (j := (1 : Int32)) (inb_of S193 ⟨by decide, by decide⟩) rfl (Sto.ofV Ar193 q193 O189 (Ins.self F_a192.2.1)) (g := (mkF m 42 #[.val (.int (2 : Int32))] [(.ref a192), (.int (1 : Int32)), (.ref b189), (.ref b189)])) rfl rfl (hb hby d1_42)
  replace OLD := own_owr OLD W193 sz_b189
  replace hk := Nat.le_trans hk (Keep.of_wr W193).1
  replace F_a190 := F_a190.wr W193
  replace F_a192 := F_a192.wr W193
  replace Z0 := Nat.le_trans Z0 (Keep.of_wr W193).1
  have V_b189 : Arv Z h193 b189 k189 (.object "java/lang/String") (2 : Int32) [(.ref a190), (.ref a192)] .null := Arv.set Ar193 q193 S193 N193 Hh193 G193 rfl W193 1 rfl (Nat.le_of_ble_eq_true rfl)
  clear Hh193 G193 N193 S193 q193 W193
  clear Ar193
  clear cl193
  replace NF := Fr.snoc X193 NF g_b189
  refine Gl.go ?_ st193
  show Gl _ _ _ _ (T193.setTop (mkF m 43 _ [(.ref b189)]))
  obtain ⟨fs, hr, hrun, hended, -, hW, hpp, hsame⟩ := Stand.leaveW (s := s) (vm₁ := T192.vm) X193 hS (by rw [e193]; exact hk) (v := some (.ref b189)) (fun h => by rw [Bd.returns] at h; cases h) (BodyLoose.notSynchronized Bd)
  exact Gl.mk ⟨_, _, retOut X193 hx Bd.returns rfl (Or.inr (Or.inr (Or.inr (Or.inr ⟨rfl, rfl, rfl⟩)))) (hb hby d1_43) hr, hrun, hended, _, _, rfl, own_cast (P := fun H v L => QNM Z 2 h0 n0 v H L) e193 ⟨NF, b189, (own_fn [a190, a192]), rfl, OLD, RA.of V_b189 2 rfl (own_lt2 rfl rfl), own_lt2 F_a190.is F_a192.is⟩, ⟨_, rfl⟩, hW, hpp, hsame.mono (by decide) (by decide)⟩
theorem ef_rm_nms_3 (m : MethodId) (x0 : Int32) : entryFrame m #[(.int x0)] 1 = mkF m 0 #[.val (.int x0)] [] := by first | (simp [entryFrame, mkF, argsToLocals, Value.category]; done) | rfl
set_option maxRecDepth 65536 in
set_option maxHeartbeats 40000000 in
theorem rm_nms_3 (l : Launch) (Z : State) (a0 : Array Value) (hw : ∀ d ∈ tables_1, d.before a0 Z = true) (ws : List Jvm.Cond)   (h0 : Heap) (n0 : Nat) (Z0 : n0 ≤ h0.size) (hn0 : n0 = h0.size) (hZ0 : Z.heap = h0) (hH9 : Jvm.Lit.constHeld Z "com/example/grantline/grantline/engine/ActionsImpliedMaskPinLaw" 9) (hH11 : Jvm.Lit.constHeld Z "com/example/grantline/grantline/engine/ActionsImpliedMaskPinLaw" 11) (hH13 : Jvm.Lit.constHeld Z "com/example/grantline/grantline/engine/ActionsImpliedMaskPinLaw" 13) (hH15 : Jvm.Lit.constHeld Z "com/example/grantline/grantline/engine/ActionsImpliedMaskPinLaw" 15) (hH17 : Jvm.Lit.constHeld Z "com/example/grantline/grantline/engine/ActionsImpliedMaskPinLaw" 17) (hcw : Jvm.Lit.compactW.before a0 Z = true) :
    MetFree l (⟨"com/example/grantline/grantline/engine/ActionsImpliedMaskPinLaw", "names", "(I)[Ljava/lang/String;"⟩ : MethodName) (head1 (Jvm.Cond.code (⟨"com/example/grantline/grantline/engine/ActionsImpliedMaskPinLaw", "names", "(I)[Ljava/lang/String;"⟩ : MethodName) method_2_code 1 (some (.array (.object "java/lang/String"))) :: ws) ({ frames := 0, cells := 11, slots := 45, locals := 0 } : Room)) (fun aQ U => aQ = #[(.int (3 : Int32))] ∧ Z.Warmed39 U.vm ∧ U.heap = h0 ∧ IB Z U.vm []) (fun _ _ _ _ _ => True) (fun _ U o U' => ∃ vQ LQ, o = .returned vQ ∧ QNM Z 3 h0 n0 vQ U'.heap LQ ∧ ReturnedEndW U o U' LQ ({ frames := 0, cells := 11, slots := 45, locals := 0 } : Room).cells ({ frames := 0, cells := 11, slots := 45, locals := 0 } : Room).slots) := by
  refine MetFree.of_bodySF (plainFor_of_name pn_1) hisR ?_
  intro p e s m args below meth c s₁ Bd hml0 hP hK
  obtain ⟨rfl, hZ, hh, hIB⟩ := hP
  have hx := Bd.exec
  have hby := Bd.bytes
  have hml : c.maxLocals = 1 := hml0
  have hown : s.vm.findClass "com/example/grantline/grantline/engine/ActionsImpliedMaskPinLaw" = some m.cls := findClass_of_methodNamed Bd.named
  have hnm := (name_of_methodNamed Bd.named Bd.method).1
  have X0 : Stand p l e ({ frames := 0, cells := 11, slots := 45, locals := 0 } : Room) s m #[(.int (3 : Int32))] below meth c s₁ [] 0 0 := Stand.of_body Bd
  have e0 : s₁.heap = h0 := by rw [← hh, Bd.state]; rfl
  have NF := Fr.nil n0
  have OLD : Ext h0 h0 := own_erefl h0
  have hS : s.Since s.vm 0 := (State.WarmedH.refl s).since 0
  have hk : 0 ≤ h0.size := Nat.zero_le _
  have hsz : s.heap.size = n0 := by rw [hh, hn0]
  refine Gl.out ?_
  refine Gl.go ?_ (fun t k => castTop (ef_rm_nms_3 m (3 : Int32)) k)
  show Gl _ _ _ _ (s₁.setTop (mkF m 0 _ []))
  refine Gl.go ?_ (fun t k => XS.iloadN X0.here hx rfl (hb hby d1_0) rfl k)
  show Gl _ _ _ _ (s₁.setTop (mkF m 1 _ [(.int (3 : Int32))]))
  refine Gl.go ?_ (fun t k => XS.ifYes X0.here hx rfl (pc0 := 1) (pc' := 9) rfl (hb hby d1_1) rfl ((if0 _ _).trans (feq (by decide : ¬ ((3 : Int32) = (0 : Int32)))).2) (by decide) (by decide) k)
  show Gl _ _ _ _ (s₁.setTop (mkF m 9 _ []))
  refine Gl.go ?_ (fun t k => XS.iloadN X0.here hx rfl (hb hby d1_9) rfl k)
  show Gl _ _ _ _ (s₁.setTop (mkF m 10 _ [(.int (3 : Int32))]))
  refine Gl.go ?_ (fun t k => XS.iconst X0.here hx rfl (hb hby d1_10) k)
  show Gl _ _ _ _ (s₁.setTop (mkF m 11 _ [(.int (1 : Int32)), (.int (3 : Int32))]))
  refine Gl.go ?_ (fun t k => XS.icmpYes X0.here hx rfl (pc0 := 11) (pc' := 24) rfl (hb hby d1_11) rfl (feq (by decide : ¬ ((3 : Int32) = (1 : Int32)))).2 (by decide) (by decide) k)
  show Gl _ _ _ _ (s₁.setTop (mkF m 24 _ []))
  refine Gl.go ?_ (fun t k => XS.iloadN X0.here hx rfl (hb hby d1_24) rfl k)
  show Gl _ _ _ _ (s₁.setTop (mkF m 25 _ [(.int (3 : Int32))]))
  refine Gl.go ?_ (fun t k => XS.iconst X0.here hx rfl (hb hby d1_25) k)
  show Gl _ _ _ _ (s₁.setTop (mkF m 26 _ [(.int (2 : Int32)), (.int (3 : Int32))]))
  refine Gl.go ?_ (fun t k => XS.icmpYes X0.here hx rfl (pc0 := 26) (pc' := 44) rfl (hb hby d1_26) rfl (feq (by decide : ¬ ((3 : Int32) = (2 : Int32)))).2 (by decide) (by decide) k)
  show Gl _ _ _ _ (s₁.setTop (mkF m 44 _ []))
  refine Gl.go ?_ (fun t k => XS.iloadN X0.here hx rfl (hb hby d1_44) rfl k)
  show Gl _ _ _ _ (s₁.setTop (mkF m 45 _ [(.int (3 : Int32))]))
  refine Gl.go ?_ (fun t k => XS.iconst X0.here hx rfl (hb hby d1_45) k)
  show Gl _ _ _ _ (s₁.setTop (mkF m 46 _ [(.int (3 : Int32)), (.int (3 : Int32))]))
  refine Gl.go ?_ (fun t k => XS.icmpNo X0.here hx rfl (hb hby d1_46) rfl (teq (by decide : (3 : Int32) = (3 : Int32))).2 k)
  show Gl _ _ _ _ (s₁.setTop (mkF m 49 _ []))
  refine Gl.go ?_ (fun t k => XS.iconst X0.here hx rfl (hb hby d1_49) k)
  show Gl _ _ _ _ (s₁.setTop (mkF m 50 #[.val (.int (3 : Int32))] [(.int (3 : Int32))]))
  obtain ⟨T194, h194, k194, X194, e194, E194, A194, O194, st194⟩ := newR X0 hx hZ hown (hw _ (List.mem_of_getElem? (i := 4) rfl)) (hw _ (List.mem_of_getElem? (i := 5) rfl)) e0 (g := (mkF m 50 #[.val (.int (3 : Int32))] [(.int (3 : Int32))])) rfl (hb hby d1_50) rfl (by decide) (cap := 3) (by decide) (by decide) (by decide) (by decide)
  obtain ⟨b194, g194⟩ : ∃ z, z = h0.size := ⟨_, rfl⟩
  rw [← g194] at A194 st194
  have g_b194 : n0 ≤ b194 := Nat.le_trans Z0 (Nat.le_of_eq g194.symm)
  have sz_b194 : (h0).size ≤ b194 := Nat.le_trans OLD.1 (Nat.le_of_eq g194.symm)
  have hi_b194 := Nat.le_trans hk (Nat.le_of_eq g194.symm)
  replace OLD := own_oext OLD E194
  replace hk := Nat.le_trans hk E194.1
  replace Z0 := Nat.le_trans Z0 E194.1
  have V_b194 : Arv Z h194 b194 k194 (.object "java/lang/String") (3 : Int32) [.null, .null, .null] .null := (Arv.new A194 (by decide)).pad (pad_rep [] .null 3)
  refine Gl.go ?_ st194
  show Gl _ _ _ _ (T194.setTop (mkF m 53 _ [(.ref b194)]))
  refine Gl.go ?_ (fun t k => XS.dup X194.here hx rfl (hb hby d1_53) rfl rfl k)
  show Gl _ _ _ _ (T194.setTop (mkF m 54 _ [(.ref b194), (.ref b194)]))
  refine Gl.go ?_ (fun t k => XS.iconst X194.here hx rfl (hb hby d1_54) k)
  show Gl _ _ _ _ (T194.setTop (mkF m 55 #[.val (.int (3 : Int32))] [(.int (0 : Int32)), (.ref b194), (.ref b194)]))
  obtain ⟨a195, T195, h195, k195, v195, c195, X195, e195, E195, S195, hk195, hZ195, ho195, q195a, q195b, q195c, q195d, -, -, I195, -, wh195, st195⟩ := ldcSVd (s := s) (vm0 := s.vm) X194 hx hZ hown (hw _ (List.mem_of_getElem? (i := 6) rfl)) (own_strAtoms hw) e194 hS hk (by rw [hsz]; exact NF) (fun b cl q => by rw [hh, ← hZ0]; exact q) hIB (by decide) hH9 hcw (vs := [.int (own_ch 0)]) (z := 1) ⟨by decide, rfl⟩ (by decide) rfl (g := (mkF m 55 #[.val (.int (3 : Int32))] [(.int (0 : Int32)), (.ref b194), (.ref b194)])) rfl (hb hby d1_55) (n := 4) (by decide) (by decide) (by decide) (by decide)
  have F_a195 : StrO Z b194 (own_ch 0) h195 a195 := StrO.mk' q195a q195b q195c q195d wh195 (by rw [hsz]; exact g_b194) V_b194.lt
  replace OLD := own_oext OLD E195
  replace hk := Nat.le_trans hk E195.1
  replace V_b194 := V_b194.ext E195
  replace Z0 := Nat.le_trans Z0 E195.1
  replace hS := S195
  replace hk := hk195
  replace hZ := hZ195
  replace hown := ho195
  replace hIB := I195
  clear q195a q195b q195c q195d wh195
  refine Gl.go ?_ st195
  show Gl _ _ _ _ (T195.setTop (mkF m 57 #[.val (.int (3 : Int32))] [(.ref a195), (.int (0 : Int32)), (.ref b194), (.ref b194)]))
  obtain ⟨cl196, Ar196, q196, S196, N196, Hh196, G196⟩ := V_b194
  obtain ⟨T196, h196, X196, e196, W196, st196⟩ := stR X195 hx hZ e195 Ar196 (j := (0 : Int32)) (inb_of S196 ⟨by decide, by decide⟩) rfl (Sto.ofV Ar196 q196 O194 (Ins.self F_a195.2.1)) (g := (mkF m 57 #[.val (.int (3 : Int32))] [(.ref a195), (.int (0 : Int32)), (.ref b194), (.ref b194)])) rfl rfl (hb hby d1_57)
  replace OLD := own_owr OLD W196 sz_b194
  replace hk := Nat.le_trans hk (Keep.of_wr W196).1
  replace F_a195 := F_a195.wr W196
  replace Z0 := Nat.le_trans Z0 (Keep.of_wr W196).1
  have V_b194 : Arv Z h196 b194 k194 (.object "java/lang/String") (3 : Int32) [(.ref a195), .null, .null] .null := Arv.set Ar196 q196 S196 N196 Hh196 G196 rfl W196 0 rfl (Nat.le_of_ble_eq_true rfl)
  clear Hh196 G196 N196 S196 q196 W196
  clear Ar196
  clear cl196
  replace NF := Fr.snoc X196 NF g_b194
  refine Gl.go ?_ st196
  show Gl _ _ _ _ (T196.setTop (mkF m 58 _ [(.ref b194)]))
  refine Gl.go ?_ (fun t k => XS.dup X196.here hx rfl (hb hby d1_58) rfl rfl k)
  show Gl _ _ _ _ (T196.setTop (mkF m 59 _ [(.ref b194), (.ref b194)]))
  refine Gl.go ?_ (fun t k => XS.iconst X196.here hx rfl (hb hby d1_59) k)
  show Gl _ _ _ _ (T196.setTop (mkF m 60 #[.val (.int (3 : Int32))] [(.int (1 : Int32)), (.ref b194), (.ref b194)]))
  obtain ⟨a197, T197, h197, k197, v197, c197, X197, e197, E197, S197, hk197, hZ197, ho197, q197a, q197b, q197c, q197d, -, -, I197, -, wh197, st197⟩ := ldcSVd (s := s) (vm0 := T195.vm) X196 hx hZ hown (hw _ (List.mem_of_getElem? (i := 15) rfl)) (own_strAtoms hw) e196 hS hk (by rw [hsz]; exact NF) (fun b cl q => by rw [hh, ← hZ0]; exact q) hIB (by decide) hH11 hcw (vs := [.int (own_ch 1)]) (z := 1) ⟨by decide, rfl⟩ (by decide) rfl (g := (mkF m 60 #[.val (.int (3 : Int32))] [(.int (1 : Int32)), (.ref b194), (.ref b194)])) rfl (hb hby d1_60) (n := 4) (by decide) (by decide) (by decide) (by decide)
  have F_a197 : StrO Z b194 (own_ch 1) h197 a197 := StrO.mk' q197a q197b q197c q197d wh197 (by rw [hsz]; exact g_b194) V_b194.lt
  replace OLD := own_oext OLD E197
  replace hk := Nat.le_trans hk E197.1
  replace F_a195 := F_a195.ext E197
  replace V_b194 := V_b194.ext E197
  replace Z0 := Nat.le_trans Z0 E197.1
  replace hS := S197
  replace hk := hk197
  replace hZ := hZ197
  replace hown := ho197
  replace hIB := I197
  clear q197a q197b q197c q197d wh197
  refine Gl.go ?_ st197
  show Gl _ _ _ _ (T197.setTop (mkF m 62 #[.val (.int (3 : Int32))] [(.ref a197), (.int (1 : Int32)), (.ref b194), (.ref b194)]))
  obtain ⟨cl198, Ar198, q198, S198, N198, Hh198, G198⟩ := V_b194
  obtain ⟨T198, h198, X198, e198, W198, st198⟩ := stR X197 hx hZ e197 Ar198 (j := (1 : Int32)) (inb_of S198 ⟨by decide, by decide⟩) rfl (Sto.ofV Ar198 q198 O194 (Ins.self F_a197.2.1)) (g := (mkF m 62 #[.val (.int (3 : Int32))] [(.ref a197), (.int (1 : Int32)), (.ref b194), (.ref b194)])) rfl rfl (hb hby d1_62)
  replace OLD := own_owr OLD W198 sz_b194
  replace hk := Nat.le_trans hk (Keep.of_wr W198).1
  replace F_a195 := F_a195.wr W198
  replace F_a197 := F_a197.wr W198
  replace Z0 := Nat.le_trans Z0 (Keep.of_wr W198).1
  have V_b194 : Arv Z h198 b194 k194 (.object "java/lang/String") (3 : Int32) [(.ref a195), (.ref a197), .null] .null := Arv.set Ar198 q198 S198 N198 Hh198 G198 rfl W198 1 rfl (Nat.le_of_ble_eq_true rfl)
  clear Hh198 G198 N198 S198 q198 W198
  clear Ar198
  clear cl198
  replace NF := Fr.snoc X198 NF g_b194
  refine Gl.go ?_ st198
  show Gl _ _ _ _ (T198.setTop (mkF m 63 _ [(.ref b194)]))
  refine Gl.go ?_ (fun t k => XS.dup X198.here hx rfl (hb hby d1_63) rfl rfl k)
  show Gl _ _ _ _ (T198.setTop (mkF m 64 _ [(.ref b194), (.ref b194)]))
  refine Gl.go ?_ (fun t k => XS.iconst X198.here hx rfl (hb hby d1_64) k)
  show Gl _ _ _ _ (T198.setTop (mkF m 65 #[.val (.int (3 : Int32))] [(.int (2 : Int32)), (.ref b194), (.ref b194)]))
  obtain ⟨a199, T199, h199, k199, v199, c199, X199, e199, E199, S199, hk199, hZ199, ho199, q199a, q199b, q199c, q199d, -, -, I199, -, wh199, st199⟩ := ldcSVd (s := s) (vm0 := T197.vm) X198 hx hZ hown (hw _ (List.mem_of_getElem? (i := 16) rfl)) (own_strAtoms hw) e198 hS hk (by rw [hsz]; exact NF) (fun b cl q => by rw [hh, ← hZ0]; exact q) hIB (by decide) hH13 hcw (vs := [.int (own_ch 2)]) (z := 1) ⟨by decide, rfl⟩ (by decide) rfl (g := (mkF m 65 #[.val (.int (3 : Int32))] [(.int (2 : Int32)), (.ref b194), (.ref b194)])) rfl (hb hby d1_65) (n := 4) (by decide) (by decide) (by decide) (by decide)
  have F_a199 : StrO Z b194 (own_ch 2) h199 a199 := StrO.mk' q199a q199b q199c q199d wh199 (by rw [hsz]; exact g_b194) V_b194.lt
  replace OLD := own_oext OLD E199
  replace hk := Nat.le_trans hk E199.1
  replace F_a195 := F_a195.ext E199
  replace F_a197 := F_a197.ext E199
  replace V_b194 := V_b194.ext E199
  replace Z0 := Nat.le_trans Z0 E199.1
  replace hS := S199
  replace hk := hk199
  replace hZ := hZ199
  replace hown := ho199
  replace hIB := I199
  clear q199a q199b q199c q199d wh199
  refine Gl.go ?_ st199
  show Gl _ _ _ _ (T199.setTop (mkF m 67 #[.val (.int (3 : Int32))] [(.ref a199), (.int (2 : Int32)), (.ref b194), (.ref b194)]))
  obtain ⟨cl200, Ar200, q200, S200, N200, Hh200, G200⟩ := V_b194
  obtain ⟨T200, h200, X200, e200, W200, st200⟩ := stR X199 hx hZ e199 Ar200 (j := (2 : Int32)) (inb_of S200 ⟨by decide, by decide⟩) rfl (Sto.ofV Ar200 q200 O194 (Ins.self F_a199.2.1)) (g := (mkF m 67 #[.val (.int (3 : Int32))] [(.ref a199), (.int (2 : Int32)), (.ref b194), (.ref b194)])) rfl rfl (hb hby d1_67)
  replace OLD := own_owr OLD W200 sz_b194
  replace hk := Nat.le_trans hk (Keep.of_wr W200).1
  replace F_a195 := F_a195.wr W200
  replace F_a197 := F_a197.wr W200
  replace F_a199 := F_a199.wr W200
  replace Z0 := Nat.le_trans Z0 (Keep.of_wr W200).1
  have V_b194 : Arv Z h200 b194 k194 (.object "java/lang/String") (3 : Int32) [(.ref a195), (.ref a197), (.ref a199)] .null := Arv.set Ar200 q200 S200 N200 Hh200 G200 rfl W200 2 rfl (Nat.le_of_ble_eq_true rfl)
  clear Hh200 G200 N200 S200 q200 W200
  clear Ar200
  clear cl200
  replace NF := Fr.snoc X200 NF g_b194
  refine Gl.go ?_ st200
  show Gl _ _ _ _ (T200.setTop (mkF m 68 _ [(.ref b194)]))
  obtain ⟨fs, hr, hrun, hended, -, hW, hpp, hsame⟩ := Stand.leaveW (s := s) (vm₁ := T199.vm) X200 hS (by rw [e200]; exact hk) (v := some (.ref b194)) (fun h => by rw [Bd.returns] at h; cases h) (BodyLoose.notSynchronized Bd)
  exact Gl.mk ⟨_, _, retOut X200 hx Bd.returns rfl (Or.inr (Or.inr (Or.inr (Or.inr ⟨rfl, rfl, rfl⟩)))) (hb hby d1_68) hr, hrun, hended, _, _, rfl, own_cast (P := fun H v L => QNM Z 3 h0 n0 v H L) e200 ⟨NF, b194, (own_fn [a195, a197, a199]), rfl, OLD, RA.of V_b194 3 rfl (own_lt3 rfl rfl rfl), own_lt3 F_a195.is F_a197.is F_a199.is⟩, ⟨_, rfl⟩, hW, hpp, hsame.mono (by decide) (by decide)⟩
theorem ef_rm_nms_4 (m : MethodId) (x0 : Int32) : entryFrame m #[(.int x0)] 1 = mkF m 0 #[.val (.int x0)] [] := by first | (simp [entryFrame, mkF, argsToLocals, Value.category]; done) | rfl
set_option maxRecDepth 65536 in
set_option maxHeartbeats 40000000 in
theorem rm_nms_4 (l : Launch) (Z : State) (a0 : Array Value) (hw : ∀ d ∈ tables_1, d.before a0 Z = true) (ws : List Jvm.Cond)   (h0 : Heap) (n0 : Nat) (Z0 : n0 ≤ h0.size) (hn0 : n0 = h0.size) (hZ0 : Z.heap = h0) (hH9 : Jvm.Lit.constHeld Z "com/example/grantline/grantline/engine/ActionsImpliedMaskPinLaw" 9) (hH11 : Jvm.Lit.constHeld Z "com/example/grantline/grantline/engine/ActionsImpliedMaskPinLaw" 11) (hH13 : Jvm.Lit.constHeld Z "com/example/grantline/grantline/engine/ActionsImpliedMaskPinLaw" 13) (hH15 : Jvm.Lit.constHeld Z "com/example/grantline/grantline/engine/ActionsImpliedMaskPinLaw" 15) (hH17 : Jvm.Lit.constHeld Z "com/example/grantline/grantline/engine/ActionsImpliedMaskPinLaw" 17) (hcw : Jvm.Lit.compactW.before a0 Z = true) :
    MetFree l (⟨"com/example/grantline/grantline/engine/ActionsImpliedMaskPinLaw", "names", "(I)[Ljava/lang/String;"⟩ : MethodName) (head1 (Jvm.Cond.code (⟨"com/example/grantline/grantline/engine/ActionsImpliedMaskPinLaw", "names", "(I)[Ljava/lang/String;"⟩ : MethodName) method_2_code 1 (some (.array (.object "java/lang/String"))) :: ws) ({ frames := 0, cells := 11, slots := 45, locals := 0 } : Room)) (fun aQ U => aQ = #[(.int (4 : Int32))] ∧ Z.Warmed39 U.vm ∧ U.heap = h0 ∧ IB Z U.vm []) (fun _ _ _ _ _ => True) (fun _ U o U' => ∃ vQ LQ, o = .returned vQ ∧ QNM Z 4 h0 n0 vQ U'.heap LQ ∧ ReturnedEndW U o U' LQ ({ frames := 0, cells := 11, slots := 45, locals := 0 } : Room).cells ({ frames := 0, cells := 11, slots := 45, locals := 0 } : Room).slots) := by
  refine MetFree.of_bodySF (plainFor_of_name pn_1) hisR ?_
  intro p e s m args below meth c s₁ Bd hml0 hP hK
  obtain ⟨rfl, hZ, hh, hIB⟩ := hP
  have hx := Bd.exec
  have hby := Bd.bytes
  have hml : c.maxLocals = 1 := hml0
  have hown : s.vm.findClass "com/example/grantline/grantline/engine/ActionsImpliedMaskPinLaw" = some m.cls := findClass_of_methodNamed Bd.named
  have hnm := (name_of_methodNamed Bd.named Bd.method).1
  have X0 : Stand p l e ({ frames := 0, cells := 11, slots := 45, locals := 0 } : Room) s m #[(.int (4 : Int32))] below meth c s₁ [] 0 0 := Stand.of_body Bd
  have e0 : s₁.heap = h0 := by rw [← hh, Bd.state]; rfl
  have NF := Fr.nil n0
  have OLD : Ext h0 h0 := own_erefl h0
  have hS : s.Since s.vm 0 := (State.WarmedH.refl s).since 0
  have hk : 0 ≤ h0.size := Nat.zero_le _
  have hsz : s.heap.size = n0 := by rw [hh, hn0]
  refine Gl.out ?_
  refine Gl.go ?_ (fun t k => castTop (ef_rm_nms_4 m (4 : Int32)) k)
  show Gl _ _ _ _ (s₁.setTop (mkF m 0 _ []))
  refine Gl.go ?_ (fun t k => XS.iloadN X0.here hx rfl (hb hby d1_0) rfl k)
  show Gl _ _ _ _ (s₁.setTop (mkF m 1 _ [(.int (4 : Int32))]))
  refine Gl.go ?_ (fun t k => XS.ifYes X0.here hx rfl (pc0 := 1) (pc' := 9) rfl (hb hby d1_1) rfl ((if0 _ _).trans (feq (by decide : ¬ ((4 : Int32) = (0 : Int32)))).2) (by decide) (by decide) k)
  show Gl _ _ _ _ (s₁.setTop (mkF m 9 _ []))
  refine Gl.go ?_ (fun t k => XS.iloadN X0.here hx rfl (hb hby d1_9) rfl k)
  show Gl _ _ _ _ (s₁.setTop (mkF m 10 _ [(.int (4 : Int32))]))
  refine Gl.go ?_ (fun t k => XS.iconst X0.here hx rfl (hb hby d1_10) k)
  show Gl _ _ _ _ (s₁.setTop (mkF m 11 _ [(.int (1 : Int32)), (.int (4 : Int32))]))
  refine Gl.go ?_ (fun t k => XS.icmpYes X0.here hx rfl (pc0 := 11) (pc' := 24) rfl (hb hby d1_11) rfl (feq (by decide : ¬ ((4 : Int32) = (1 : Int32)))).2 (by decide) (by decide) k)
  show Gl _ _ _ _ (s₁.setTop (mkF m 24 _ []))
  refine Gl.go ?_ (fun t k => XS.iloadN X0.here hx rfl (hb hby d1_24) rfl k)
  show Gl _ _ _ _ (s₁.setTop (mkF m 25 _ [(.int (4 : Int32))]))
  refine Gl.go ?_ (fun t k => XS.iconst X0.here hx rfl (hb hby d1_25) k)
  show Gl _ _ _ _ (s₁.setTop (mkF m 26 _ [(.int (2 : Int32)), (.int (4 : Int32))]))
  refine Gl.go ?_ (fun t k => XS.icmpYes X0.here hx rfl (pc0 := 26) (pc' := 44) rfl (hb hby d1_26) rfl (feq (by decide : ¬ ((4 : Int32) = (2 : Int32)))).2 (by decide) (by decide) k)
  show Gl _ _ _ _ (s₁.setTop (mkF m 44 _ []))
  refine Gl.go ?_ (fun t k => XS.iloadN X0.here hx rfl (hb hby d1_44) rfl k)
  show Gl _ _ _ _ (s₁.setTop (mkF m 45 _ [(.int (4 : Int32))]))
  refine Gl.go ?_ (fun t k => XS.iconst X0.here hx rfl (hb hby d1_45) k)
  show Gl _ _ _ _ (s₁.setTop (mkF m 46 _ [(.int (3 : Int32)), (.int (4 : Int32))]))
  refine Gl.go ?_ (fun t k => XS.icmpYes X0.here hx rfl (pc0 := 46) (pc' := 69) rfl (hb hby d1_46) rfl (feq (by decide : ¬ ((4 : Int32) = (3 : Int32)))).2 (by decide) (by decide) k)
  show Gl _ _ _ _ (s₁.setTop (mkF m 69 _ []))
  refine Gl.go ?_ (fun t k => XS.iloadN X0.here hx rfl (hb hby d1_69) rfl k)
  show Gl _ _ _ _ (s₁.setTop (mkF m 70 _ [(.int (4 : Int32))]))
  refine Gl.go ?_ (fun t k => XS.iconst X0.here hx rfl (hb hby d1_70) k)
  show Gl _ _ _ _ (s₁.setTop (mkF m 71 _ [(.int (4 : Int32)), (.int (4 : Int32))]))
  refine Gl.go ?_ (fun t k => XS.icmpNo X0.here hx rfl (hb hby d1_71) rfl (teq (by decide : (4 : Int32) = (4 : Int32))).2 k)
  show Gl _ _ _ _ (s₁.setTop (mkF m 74 _ []))
  refine Gl.go ?_ (fun t k => XS.iconst X0.here hx rfl (hb hby d1_74) k)
  show Gl _ _ _ _ (s₁.setTop (mkF m 75 #[.val (.int (4 : Int32))] [(.int (4 : Int32))]))
  obtain ⟨T201, h201, k201, X201, e201, E201, A201, O201, st201⟩ := newR X0 hx hZ hown (hw _ (List.mem_of_getElem? (i := 4) rfl)) (hw _ (List.mem_of_getElem? (i := 5) rfl)) e0 (g := (mkF m 75 #[.val (.int (4 : Int32))] [(.int (4 : Int32))])) rfl (hb hby d1_75) rfl (by decide) (cap := 4) (by decide) (by decide) (by decide) (by decide)
  obtain ⟨b201, g201⟩ : ∃ z, z = h0.size := ⟨_, rfl⟩
  rw [← g201] at A201 st201
  have g_b201 : n0 ≤ b201 := Nat.le_trans Z0 (Nat.le_of_eq g201.symm)
  have sz_b201 : (h0).size ≤ b201 := Nat.le_trans OLD.1 (Nat.le_of_eq g201.symm)
  have hi_b201 := Nat.le_trans hk (Nat.le_of_eq g201.symm)
  replace OLD := own_oext OLD E201
  replace hk := Nat.le_trans hk E201.1
  replace Z0 := Nat.le_trans Z0 E201.1
  have V_b201 : Arv Z h201 b201 k201 (.object "java/lang/String") (4 : Int32) [.null, .null, .null, .null] .null := (Arv.new A201 (by decide)).pad (pad_rep [] .null 4)
  refine Gl.go ?_ st201
  show Gl _ _ _ _ (T201.setTop (mkF m 78 _ [(.ref b201)]))
  refine Gl.go ?_ (fun t k => XS.dup X201.here hx rfl (hb hby d1_78) rfl rfl k)
  show Gl _ _ _ _ (T201.setTop (mkF m 79 _ [(.ref b201), (.ref b201)]))
  refine Gl.go ?_ (fun t k => XS.iconst X201.here hx rfl (hb hby d1_79) k)
  show Gl _ _ _ _ (T201.setTop (mkF m 80 #[.val (.int (4 : Int32))] [(.int (0 : Int32)), (.ref b201), (.ref b201)]))
  obtain ⟨a202, T202, h202, k202, v202, c202, X202, e202, E202, S202, hk202, hZ202, ho202, q202a, q202b, q202c, q202d, -, -, I202, -, wh202, st202⟩ := ldcSVd (s := s) (vm0 := s.vm) X201 hx hZ hown (hw _ (List.mem_of_getElem? (i := 6) rfl)) (own_strAtoms hw) e201 hS hk (by rw [hsz]; exact NF) (fun b cl q => by rw [hh, ← hZ0]; exact q) hIB (by decide) hH9 hcw (vs := [.int (own_ch 0)]) (z := 1) ⟨by decide, rfl⟩ (by decide) rfl (g := (mkF m 80 #[.val (.int (4 : Int32))] [(.int (0 : Int32)), (.ref b201), (.ref b201)])) rfl (hb hby d1_80) (n := 4) (by decide) (by decide) (by decide) (by decide)
  have F_a202 : StrO Z b201 (own_ch 0) h202 a202 := StrO.mk' q202a q202b q202c q202d wh202 (by rw [hsz]; exact g_b201) V_b201.lt
  replace OLD := own_oext OLD E202
  replace hk := Nat.le_trans hk E202.1
  replace V_b201 := V_b201.ext E202
  replace Z0 := Nat.le_trans Z0 E202.1
  replace hS := S202
  replace hk := hk202
  replace hZ := hZ202
  replace hown := ho202
  replace hIB := I202
  clear q202a q202b q202c q202d wh202
  refine Gl.go ?_ st202
  show Gl _ _ _ _ (T202.setTop (mkF m 82 #[.val (.int (4 : Int32))] [(.ref a202), (.int (0 : Int32)), (.ref b201), (.ref b201)]))
  obtain ⟨cl203, Ar203, q203, S203, N203, Hh203, G203⟩ := V_b201
  obtain ⟨T203, h203, X203, e203, W203, st203⟩ := stR X202 hx hZ e202 Ar203 (j := (0 : Int32)) (inb_of S203 ⟨by decide, by decide⟩) rfl (Sto.ofV Ar203 q203 O201 (Ins.self F_a202.2.1)) (g := (mkF m 82 #[.val (.int (4 : Int32))] [(.ref a202), (.int (0 : Int32)), (.ref b201), (.ref b201)])) rfl rfl (hb hby d1_82)
  replace OLD := own_owr OLD W203 sz_b201
  replace hk := Nat.le_trans hk (Keep.of_wr W203).1
  replace F_a202 := F_a202.wr W203
  replace Z0 := Nat.le_trans Z0 (Keep.of_wr W203).1
  have V_b201 : Arv Z h203 b201 k201 (.object "java/lang/String") (4 : Int32) [(.ref a202), .null, .null, .null] .null := Arv.set Ar203 q203 S203 N203 Hh203 G203 rfl W203 0 rfl (Nat.le_of_ble_eq_true rfl)
  clear Hh203 G203 N203 S203 q203 W203
  clear Ar203
  clear cl203
  replace NF := Fr.snoc X203 NF g_b201
  refine Gl.go ?_ st203
  show Gl _ _ _ _ (T203.setTop (mkF m 83 _ [(.ref b201)]))
  refine Gl.go ?_ (fun t k => XS.dup X203.here hx rfl (hb hby d1_83) rfl rfl k)
  show Gl _ _ _ _ (T203.setTop (mkF m 84 _ [(.ref b201), (.ref b201)]))
  refine Gl.go ?_ (fun t k => XS.iconst X203.here hx rfl (hb hby d1_84) k)
  show Gl _ _ _ _ (T203.setTop (mkF m 85 #[.val (.int (4 : Int32))] [(.int (1 : Int32)), (.ref b201), (.ref b201)]))
  obtain ⟨a204, T204, h204, k204, v204, c204, X204, e204, E204, S204, hk204, hZ204, ho204, q204a, q204b, q204c, q204d, -, -, I204, -, wh204, st204⟩ := ldcSVd (s := s) (vm0 := T202.vm) X203 hx hZ hown (hw _ (List.mem_of_getElem? (i := 15) rfl)) (own_strAtoms hw) e203 hS hk (by rw [hsz]; exact NF) (fun b cl q => by rw [hh, ← hZ0]; exact q) hIB (by decide) hH11 hcw (vs := [.int (own_ch 1)]) (z := 1) ⟨by decide, rfl⟩ (by decide) rfl (g := (mkF m 85 #[.val (.int (4 : Int32))] [(.int (1 : Int32)), (.ref b201), (.ref b201)])) rfl (hb hby d1_85) (n := 4) (by decide) (by decide) (by decide) (by decide)
  have F_a204 : StrO Z b201 (own_ch 1) h204 a204 := StrO.mk' q204a q204b q204c q204d wh204 (by rw [hsz]; exact g_b201) V_b201.lt
  replace OLD := own_oext OLD E204
  replace hk := Nat.le_trans hk E204.1
  replace F_a202 := F_a202.ext E204
  replace V_b201 := V_b201.ext E204
  replace Z0 := Nat.le_trans Z0 E204.1
  replace hS := S204
  replace hk := hk204
  replace hZ := hZ204
  replace hown := ho204
  replace hIB := I204
  clear q204a q204b q204c q204d wh204
  refine Gl.go ?_ st204
  show Gl _ _ _ _ (T204.setTop (mkF m 87 #[.val (.int (4 : Int32))] [(.ref a204), (.int (1 : Int32)), (.ref b201), (.ref b201)]))
  obtain ⟨cl205, Ar205, q205, S205, N205, Hh205, G205⟩ := V_b201
  obtain ⟨T205, h205, X205, e205, W205, st205⟩ := stR X204 hx hZ e204 Ar205 (j := (1 : Int32)) (inb_of S205 ⟨by decide, by decide⟩) rfl (Sto.ofV Ar205 q205 O201 (Ins.self F_a204.2.1)) (g := (mkF m 87 #[.val (.int (4 : Int32))] [(.ref a204), (.int (1 : Int32)), (.ref b201), (.ref b201)])) rfl rfl (hb hby d1_87)
  replace OLD := own_owr OLD W205 sz_b201
  replace hk := Nat.le_trans hk (Keep.of_wr W205).1
  replace F_a202 := F_a202.wr W205
  replace F_a204 := F_a204.wr W205
  replace Z0 := Nat.le_trans Z0 (Keep.of_wr W205).1
  have V_b201 : Arv Z h205 b201 k201 (.object "java/lang/String") (4 : Int32) [(.ref a202), (.ref a204), .null, .null] .null := Arv.set Ar205 q205 S205 N205 Hh205 G205 rfl W205 1 rfl (Nat.le_of_ble_eq_true rfl)
  clear Hh205 G205 N205 S205 q205 W205
  clear Ar205
  clear cl205
  replace NF := Fr.snoc X205 NF g_b201
  refine Gl.go ?_ st205
  show Gl _ _ _ _ (T205.setTop (mkF m 88 _ [(.ref b201)]))
  refine Gl.go ?_ (fun t k => XS.dup X205.here hx rfl (hb hby d1_88) rfl rfl k)
  show Gl _ _ _ _ (T205.setTop (mkF m 89 _ [(.ref b201), (.ref b201)]))
  refine Gl.go ?_ (fun t k => XS.iconst X205.here hx rfl (hb hby d1_89) k)
  show Gl _ _ _ _ (T205.setTop (mkF m 90 #[.val (.int (4 : Int32))] [(.int (2 : Int32)), (.ref b201), (.ref b201)]))
  obtain ⟨a206, T206, h206, k206, v206, c206, X206, e206, E206, S206, hk206, hZ206, ho206, q206a, q206b, q206c, q206d, -, -, I206, -, wh206, st206⟩ := ldcSVd (s := s) (vm0 := T204.vm) X205 hx hZ hown (hw _ (List.mem_of_getElem? (i := 16) rfl)) (own_strAtoms hw) e205 hS hk (by rw [hsz]; exact NF) (fun b cl q => by rw [hh, ← hZ0]; exact q) hIB (by decide) hH13 hcw (vs := [.int (own_ch 2)]) (z := 1) ⟨by decide, rfl⟩ (by decide) rfl (g := (mkF m 90 #[.val (.int (4 : Int32))] [(.int (2 : Int32)), (.ref b201), (.ref b201)])) rfl (hb hby d1_90) (n := 4) (by decide) (by decide) (by decide) (by decide)
  have F_a206 : StrO Z b201 (own_ch 2) h206 a206 := StrO.mk' q206a q206b q206c q206d wh206 (by rw [hsz]; exact g_b201) V_b201.lt
  replace OLD := own_oext OLD E206
  replace hk := Nat.le_trans hk E206.1
  replace F_a202 := F_a202.ext E206
  replace F_a204 := F_a204.ext E206
  replace V_b201 := V_b201.ext E206
  replace Z0 := Nat.le_trans Z0 E206.1
  replace hS := S206
  replace hk := hk206
  replace hZ := hZ206
  replace hown := ho206
  replace hIB := I206
  clear q206a q206b q206c q206d wh206
  refine Gl.go ?_ st206
  show Gl _ _ _ _ (T206.setTop (mkF m 92 #[.val (.int (4 : Int32))] [(.ref a206), (.int (2 : Int32)), (.ref b201), (.ref b201)]))
  obtain ⟨cl207, Ar207, q207, S207, N207, Hh207, G207⟩ := V_b201
  obtain ⟨T207, h207, X207, e207, W207, st207⟩ := stR X206 hx hZ e206 Ar207 (j := (2 : Int32)) (inb_of S207 ⟨by decide, by decide⟩) rfl (Sto.ofV Ar207 q207 O201 (Ins.self F_a206.2.1)) (g := (mkF m 92 #[.val (.int (4 : Int32))] [(.ref a206), (.int (2 : Int32)), (.ref b201), (.ref b201)])) rfl rfl (hb hby d1_92)
  replace OLD := own_owr OLD W207 sz_b201
  replace hk := Nat.le_trans hk (Keep.of_wr W207).1
  replace F_a202 := F_a202.wr W207
  replace F_a204 := F_a204.wr W207
  replace F_a206 := F_a206.wr W207
  replace Z0 := Nat.le_trans Z0 (Keep.of_wr W207).1
  have V_b201 : Arv Z h207 b201 k201 (.object "java/lang/String") (4 : Int32) [(.ref a202), (.ref a204), (.ref a206), .null] .null := Arv.set Ar207 q207 S207 N207 Hh207 G207 rfl W207 2 rfl (Nat.le_of_ble_eq_true rfl)
  clear Hh207 G207 N207 S207 q207 W207
  clear Ar207
  clear cl207
  replace NF := Fr.snoc X207 NF g_b201
  refine Gl.go ?_ st207
  show Gl _ _ _ _ (T207.setTop (mkF m 93 _ [(.ref b201)]))
  refine Gl.go ?_ (fun t k => XS.dup X207.here hx rfl (hb hby d1_93) rfl rfl k)
  show Gl _ _ _ _ (T207.setTop (mkF m 94 _ [(.ref b201), (.ref b201)]))
  refine Gl.go ?_ (fun t k => XS.iconst X207.here hx rfl (hb hby d1_94) k)
  show Gl _ _ _ _ (T207.setTop (mkF m 95 #[.val (.int (4 : Int32))] [(.int (3 : Int32)), (.ref b201), (.ref b201)]))
  obtain ⟨a208, T208, h208, k208, v208, c208, X208, e208, E208, S208, hk208, hZ208, ho208, q208a, q208b, q208c, q208d, -, -, I208, -, wh208, st208⟩ := ldcSVd (s := s) (vm0 := T206.vm) X207 hx hZ hown (hw _ (List.mem_of_getElem? (i := 84) rfl)) (own_strAtoms hw) e207 hS hk (by rw [hsz]; exact NF) (fun b cl q => by rw [hh, ← hZ0]; exact q) hIB (by decide) hH15 hcw (vs := [.int (own_ch 3)]) (z := 1) ⟨by decide, rfl⟩ (by decide) rfl (g := (mkF m 95 #[.val (.int (4 : Int32))] [(.int (3 : Int32)), (.ref b201), (.ref b201)])) rfl (hb hby d1_95) (n := 4) (by decide) (by decide) (by decide) (by decide)
  have F_a208 : StrO Z b201 (own_ch 3) h208 a208 := StrO.mk' q208a q208b q208c q208d wh208 (by rw [hsz]; exact g_b201) V_b201.lt
  replace OLD := own_oext OLD E208
  replace hk := Nat.le_trans hk E208.1
  replace F_a202 := F_a202.ext E208
  replace F_a204 := F_a204.ext E208
  replace F_a206 := F_a206.ext E208
  replace V_b201 := V_b201.ext E208
  replace Z0 := Nat.le_trans Z0 E208.1
  replace hS := S208
  replace hk := hk208
  replace hZ := hZ208
  replace hown := ho208
  replace hIB := I208
  clear q208a q208b q208c q208d wh208
  refine Gl.go ?_ st208
  show Gl _ _ _ _ (T208.setTop (mkF m 97 #[.val (.int (4 : Int32))] [(.ref a208), (.int (3 : Int32)), (.ref b201), (.ref b201)]))
  obtain ⟨cl209, Ar209, q209, S209, N209, Hh209, G209⟩ := V_b201
  obtain ⟨T209, h209, X209, e209, W209, st209⟩ := stR X208 hx hZ e208 Ar209 (j := (3 : Int32)) (inb_of S209 ⟨by decide, by decide⟩) rfl (Sto.ofV Ar209 q209 O201 (Ins.self F_a208.2.1)) (g := (mkF m 97 #[.val (.int (4 : Int32))] [(.ref a208), (.int (3 : Int32)), (.ref b201), (.ref b201)])) rfl rfl (hb hby d1_97)
  replace OLD := own_owr OLD W209 sz_b201
  replace hk := Nat.le_trans hk (Keep.of_wr W209).1
  replace F_a202 := F_a202.wr W209
  replace F_a204 := F_a204.wr W209
  replace F_a206 := F_a206.wr W209
  replace F_a208 := F_a208.wr W209
  replace Z0 := Nat.le_trans Z0 (Keep.of_wr W209).1
  have V_b201 : Arv Z h209 b201 k201 (.object "java/lang/String") (4 : Int32) [(.ref a202), (.ref a204), (.ref a206), (.ref a208)] .null := Arv.set Ar209 q209 S209 N209 Hh209 G209 rfl W209 3 rfl (Nat.le_of_ble_eq_true rfl)
  clear Hh209 G209 N209 S209 q209 W209
  clear Ar209
  clear cl209
  replace NF := Fr.snoc X209 NF g_b201
  refine Gl.go ?_ st209
  show Gl _ _ _ _ (T209.setTop (mkF m 98 _ [(.ref b201)]))
  obtain ⟨fs, hr, hrun, hended, -, hW, hpp, hsame⟩ := Stand.leaveW (s := s) (vm₁ := T208.vm) X209 hS (by rw [e209]; exact hk) (v := some (.ref b201)) (fun h => by rw [Bd.returns] at h; cases h) (BodyLoose.notSynchronized Bd)
  exact Gl.mk ⟨_, _, retOut X209 hx Bd.returns rfl (Or.inr (Or.inr (Or.inr (Or.inr ⟨rfl, rfl, rfl⟩)))) (hb hby d1_98) hr, hrun, hended, _, _, rfl, own_cast (P := fun H v L => QNM Z 4 h0 n0 v H L) e209 ⟨NF, b201, (own_fn [a202, a204, a206, a208]), rfl, OLD, RA.of V_b201 4 rfl (own_lt4 rfl rfl rfl rfl), own_lt4 F_a202.is F_a204.is F_a206.is F_a208.is⟩, ⟨_, rfl⟩, hW, hpp, hsame.mono (by decide) (by decide)⟩
theorem ef_rm_nms_5 (m : MethodId) (x0 : Int32) : entryFrame m #[(.int x0)] 1 = mkF m 0 #[.val (.int x0)] [] := by first | (simp [entryFrame, mkF, argsToLocals, Value.category]; done) | rfl
set_option maxRecDepth 65536 in
set_option maxHeartbeats 40000000 in
theorem rm_nms_5 (l : Launch) (Z : State) (a0 : Array Value) (hw : ∀ d ∈ tables_1, d.before a0 Z = true) (ws : List Jvm.Cond)   (h0 : Heap) (n0 : Nat) (Z0 : n0 ≤ h0.size) (hn0 : n0 = h0.size) (hZ0 : Z.heap = h0) (hH9 : Jvm.Lit.constHeld Z "com/example/grantline/grantline/engine/ActionsImpliedMaskPinLaw" 9) (hH11 : Jvm.Lit.constHeld Z "com/example/grantline/grantline/engine/ActionsImpliedMaskPinLaw" 11) (hH13 : Jvm.Lit.constHeld Z "com/example/grantline/grantline/engine/ActionsImpliedMaskPinLaw" 13) (hH15 : Jvm.Lit.constHeld Z "com/example/grantline/grantline/engine/ActionsImpliedMaskPinLaw" 15) (hH17 : Jvm.Lit.constHeld Z "com/example/grantline/grantline/engine/ActionsImpliedMaskPinLaw" 17) (hcw : Jvm.Lit.compactW.before a0 Z = true) :
    MetFree l (⟨"com/example/grantline/grantline/engine/ActionsImpliedMaskPinLaw", "names", "(I)[Ljava/lang/String;"⟩ : MethodName) (head1 (Jvm.Cond.code (⟨"com/example/grantline/grantline/engine/ActionsImpliedMaskPinLaw", "names", "(I)[Ljava/lang/String;"⟩ : MethodName) method_2_code 1 (some (.array (.object "java/lang/String"))) :: ws) ({ frames := 0, cells := 11, slots := 45, locals := 0 } : Room)) (fun aQ U => aQ = #[(.int (5 : Int32))] ∧ Z.Warmed39 U.vm ∧ U.heap = h0 ∧ IB Z U.vm []) (fun _ _ _ _ _ => True) (fun _ U o U' => ∃ vQ LQ, o = .returned vQ ∧ QNM Z 5 h0 n0 vQ U'.heap LQ ∧ ReturnedEndW U o U' LQ ({ frames := 0, cells := 11, slots := 45, locals := 0 } : Room).cells ({ frames := 0, cells := 11, slots := 45, locals := 0 } : Room).slots) := by
  refine MetFree.of_bodySF (plainFor_of_name pn_1) hisR ?_
  intro p e s m args below meth c s₁ Bd hml0 hP hK
  obtain ⟨rfl, hZ, hh, hIB⟩ := hP
  have hx := Bd.exec
  have hby := Bd.bytes
  have hml : c.maxLocals = 1 := hml0
  have hown : s.vm.findClass "com/example/grantline/grantline/engine/ActionsImpliedMaskPinLaw" = some m.cls := findClass_of_methodNamed Bd.named
  have hnm := (name_of_methodNamed Bd.named Bd.method).1
  have X0 : Stand p l e ({ frames := 0, cells := 11, slots := 45, locals := 0 } : Room) s m #[(.int (5 : Int32))] below meth c s₁ [] 0 0 := Stand.of_body Bd
  have e0 : s₁.heap = h0 := by rw [← hh, Bd.state]; rfl
  have NF := Fr.nil n0
  have OLD : Ext h0 h0 := own_erefl h0
  have hS : s.Since s.vm 0 := (State.WarmedH.refl s).since 0
  have hk : 0 ≤ h0.size := Nat.zero_le _
  have hsz : s.heap.size = n0 := by rw [hh, hn0]
  refine Gl.out ?_
  refine Gl.go ?_ (fun t k => castTop (ef_rm_nms_5 m (5 : Int32)) k)
  show Gl _ _ _ _ (s₁.setTop (mkF m 0 _ []))
  refine Gl.go ?_ (fun t k => XS.iloadN X0.here hx rfl (hb hby d1_0) rfl k)
  show Gl _ _ _ _ (s₁.setTop (mkF m 1 _ [(.int (5 : Int32))]))
  refine Gl.go ?_ (fun t k => XS.ifYes X0.here hx rfl (pc0 := 1) (pc' := 9) rfl (hb hby d1_1) rfl ((if0 _ _).trans (feq (by decide : ¬ ((5 : Int32) = (0 : Int32)))).2) (by decide) (by decide) k)
  show Gl _ _ _ _ (s₁.setTop (mkF m 9 _ []))
  refine Gl.go ?_ (fun t k => XS.iloadN X0.here hx rfl (hb hby d1_9) rfl k)
  show Gl _ _ _ _ (s₁.setTop (mkF m 10 _ [(.int (5 : Int32))]))
  refine Gl.go ?_ (fun t k => XS.iconst X0.here hx rfl (hb hby d1_10) k)
  show Gl _ _ _ _ (s₁.setTop (mkF m 11 _ [(.int (1 : Int32)), (.int (5 : Int32))]))
  refine Gl.go ?_ (fun t k => XS.icmpYes X0.here hx rfl (pc0 := 11) (pc' := 24) rfl (hb hby d1_11) rfl (feq (by decide : ¬ ((5 : Int32) = (1 : Int32)))).2 (by decide) (by decide) k)
  show Gl _ _ _ _ (s₁.setTop (mkF m 24 _ []))
  refine Gl.go ?_ (fun t k => XS.iloadN X0.here hx rfl (hb hby d1_24) rfl k)
  show Gl _ _ _ _ (s₁.setTop (mkF m 25 _ [(.int (5 : Int32))]))
  refine Gl.go ?_ (fun t k => XS.iconst X0.here hx rfl (hb hby d1_25) k)
  show Gl _ _ _ _ (s₁.setTop (mkF m 26 _ [(.int (2 : Int32)), (.int (5 : Int32))]))
  refine Gl.go ?_ (fun t k => XS.icmpYes X0.here hx rfl (pc0 := 26) (pc' := 44) rfl (hb hby d1_26) rfl (feq (by decide : ¬ ((5 : Int32) = (2 : Int32)))).2 (by decide) (by decide) k)
  show Gl _ _ _ _ (s₁.setTop (mkF m 44 _ []))
  refine Gl.go ?_ (fun t k => XS.iloadN X0.here hx rfl (hb hby d1_44) rfl k)
  show Gl _ _ _ _ (s₁.setTop (mkF m 45 _ [(.int (5 : Int32))]))
  refine Gl.go ?_ (fun t k => XS.iconst X0.here hx rfl (hb hby d1_45) k)
  show Gl _ _ _ _ (s₁.setTop (mkF m 46 _ [(.int (3 : Int32)), (.int (5 : Int32))]))
  refine Gl.go ?_ (fun t k => XS.icmpYes X0.here hx rfl (pc0 := 46) (pc' := 69) rfl (hb hby d1_46) rfl (feq (by decide : ¬ ((5 : Int32) = (3 : Int32)))).2 (by decide) (by decide) k)
  show Gl _ _ _ _ (s₁.setTop (mkF m 69 _ []))
  refine Gl.go ?_ (fun t k => XS.iloadN X0.here hx rfl (hb hby d1_69) rfl k)
  show Gl _ _ _ _ (s₁.setTop (mkF m 70 _ [(.int (5 : Int32))]))
  refine Gl.go ?_ (fun t k => XS.iconst X0.here hx rfl (hb hby d1_70) k)
  show Gl _ _ _ _ (s₁.setTop (mkF m 71 _ [(.int (4 : Int32)), (.int (5 : Int32))]))
  refine Gl.go ?_ (fun t k => XS.icmpYes X0.here hx rfl (pc0 := 71) (pc' := 99) rfl (hb hby d1_71) rfl (feq (by decide : ¬ ((5 : Int32) = (4 : Int32)))).2 (by decide) (by decide) k)
  show Gl _ _ _ _ (s₁.setTop (mkF m 99 _ []))
  refine Gl.go ?_ (fun t k => XS.iconst X0.here hx rfl (hb hby d1_99) k)
  show Gl _ _ _ _ (s₁.setTop (mkF m 100 #[.val (.int (5 : Int32))] [(.int (5 : Int32))]))
  obtain ⟨T210, h210, k210, X210, e210, E210, A210, O210, st210⟩ := newR X0 hx hZ hown (hw _ (List.mem_of_getElem? (i := 4) rfl)) (hw _ (List.mem_of_getElem? (i := 5) rfl)) e0 (g := (mkF m 100 #[.val (.int (5 : Int32))] [(.int (5 : Int32))])) rfl (hb hby d1_100) rfl (by decide) (cap := 5) (by decide) (by decide) (by decide) (by decide)
  obtain ⟨b210, g210⟩ : ∃ z, z = h0.size := ⟨_, rfl⟩
  rw [← g210] at A210 st210
  have g_b210 : n0 ≤ b210 := Nat.le_trans Z0 (Nat.le_of_eq g210.symm)
  have sz_b210 : (h0).size ≤ b210 := Nat.le_trans OLD.1 (Nat.le_of_eq g210.symm)
  have hi_b210 := Nat.le_trans hk (Nat.le_of_eq g210.symm)
  replace OLD := own_oext OLD E210
  replace hk := Nat.le_trans hk E210.1
  replace Z0 := Nat.le_trans Z0 E210.1
  have V_b210 : Arv Z h210 b210 k210 (.object "java/lang/String") (5 : Int32) [.null, .null, .null, .null, .null] .null := (Arv.new A210 (by decide)).pad (pad_rep [] .null 5)
  refine Gl.go ?_ st210
  show Gl _ _ _ _ (T210.setTop (mkF m 103 _ [(.ref b210)]))
  refine Gl.go ?_ (fun t k => XS.dup X210.here hx rfl (hb hby d1_103) rfl rfl k)
  show Gl _ _ _ _ (T210.setTop (mkF m 104 _ [(.ref b210), (.ref b210)]))
  refine Gl.go ?_ (fun t k => XS.iconst X210.here hx rfl (hb hby d1_104) k)
  show Gl _ _ _ _ (T210.setTop (mkF m 105 #[.val (.int (5 : Int32))] [(.int (0 : Int32)), (.ref b210), (.ref b210)]))
  obtain ⟨a211, T211, h211, k211, v211, c211, X211, e211, E211, S211, hk211, hZ211, ho211, q211a, q211b, q211c, q211d, -, -, I211, -, wh211, st211⟩ := ldcSVd (s := s) (vm0 := s.vm) X210 hx hZ hown (hw _ (List.mem_of_getElem? (i := 6) rfl)) (own_strAtoms hw) e210 hS hk (by rw [hsz]; exact NF) (fun b cl q => by rw [hh, ← hZ0]; exact q) hIB (by decide) hH9 hcw (vs := [.int (own_ch 0)]) (z := 1) ⟨by decide, rfl⟩ (by decide) rfl (g := (mkF m 105 #[.val (.int (5 : Int32))] [(.int (0 : Int32)), (.ref b210), (.ref b210)])) rfl (hb hby d1_105) (n := 4) (by decide) (by decide) (by decide) (by decide)
  have F_a211 : StrO Z b210 (own_ch 0) h211 a211 := StrO.mk' q211a q211b q211c q211d wh211 (by rw [hsz]; exact g_b210) V_b210.lt
  replace OLD := own_oext OLD E211
  replace hk := Nat.le_trans hk E211.1
  replace V_b210 := V_b210.ext E211
  replace Z0 := Nat.le_trans Z0 E211.1
  replace hS := S211
  replace hk := hk211
  replace hZ := hZ211
  replace hown := ho211
  replace hIB := I211
  clear q211a q211b q211c q211d wh211
  refine Gl.go ?_ st211
  show Gl _ _ _ _ (T211.setTop (mkF m 107 #[.val (.int (5 : Int32))] [(.ref a211), (.int (0 : Int32)), (.ref b210), (.ref b210)]))
  obtain ⟨cl212, Ar212, q212, S212, N212, Hh212, G212⟩ := V_b210
  obtain ⟨T212, h212, X212, e212, W212, st212⟩ := stR X211 hx hZ e211 Ar212 (j := (0 : Int32)) (inb_of S212 ⟨by decide, by decide⟩) rfl (Sto.ofV Ar212 q212 O210 (Ins.self F_a211.2.1)) (g := (mkF m 107 #[.val (.int (5 : Int32))] [(.ref a211), (.int (0 : Int32)), (.ref b210), (.ref b210)])) rfl rfl (hb hby d1_107)
  replace OLD := own_owr OLD W212 sz_b210
  replace hk := Nat.le_trans hk (Keep.of_wr W212).1
  replace F_a211 := F_a211.wr W212
  replace Z0 := Nat.le_trans Z0 (Keep.of_wr W212).1
  have V_b210 : Arv Z h212 b210 k210 (.object "java/lang/String") (5 : Int32) [(.ref a211), .null, .null, .null, .null] .null := Arv.set Ar212 q212 S212 N212 Hh212 G212 rfl W212 0 rfl (Nat.le_of_ble_eq_true rfl)
  clear Hh212 G212 N212 S212 q212 W212
  clear Ar212
  clear cl212
  replace NF := Fr.snoc X212 NF g_b210
  refine Gl.go ?_ st212
  show Gl _ _ _ _ (T212.setTop (mkF m 108 _ [(.ref b210)]))
  refine Gl.go ?_ (fun t k => XS.dup X212.here hx rfl (hb hby d1_108) rfl rfl k)
  show Gl _ _ _ _ (T212.setTop (mkF m 109 _ [(.ref b210), (.ref b210)]))
  refine Gl.go ?_ (fun t k => XS.iconst X212.here hx rfl (hb hby d1_109) k)
  show Gl _ _ _ _ (T212.setTop (mkF m 110 #[.val (.int (5 : Int32))] [(.int (1 : Int32)), (.ref b210), (.ref b210)]))
  obtain ⟨a213, T213, h213, k213, v213, c213, X213, e213, E213, S213, hk213, hZ213, ho213, q213a, q213b, q213c, q213d, -, -, I213, -, wh213, st213⟩ := ldcSVd (s := s) (vm0 := T211.vm) X212 hx hZ hown (hw _ (List.mem_of_getElem? (i := 15) rfl)) (own_strAtoms hw) e212 hS hk (by rw [hsz]; exact NF) (fun b cl q => by rw [hh, ← hZ0]; exact q) hIB (by decide) hH11 hcw (vs := [.int (own_ch 1)]) (z := 1) ⟨by decide, rfl⟩ (by decide) rfl (g := (mkF m 110 #[.val (.int (5 : Int32))] [(.int (1 : Int32)), (.ref b210), (.ref b210)])) rfl (hb hby d1_110) (n := 4) (by decide) (by decide) (by decide) (by decide)
  have F_a213 : StrO Z b210 (own_ch 1) h213 a213 := StrO.mk' q213a q213b q213c q213d wh213 (by rw [hsz]; exact g_b210) V_b210.lt
  replace OLD := own_oext OLD E213
  replace hk := Nat.le_trans hk E213.1
  replace F_a211 := F_a211.ext E213
  replace V_b210 := V_b210.ext E213
  replace Z0 := Nat.le_trans Z0 E213.1
  replace hS := S213
  replace hk := hk213
  replace hZ := hZ213
  replace hown := ho213
  replace hIB := I213
  clear q213a q213b q213c q213d wh213
  refine Gl.go ?_ st213
  show Gl _ _ _ _ (T213.setTop (mkF m 112 #[.val (.int (5 : Int32))] [(.ref a213), (.int (1 : Int32)), (.ref b210), (.ref b210)]))
  obtain ⟨cl214, Ar214, q214, S214, N214, Hh214, G214⟩ := V_b210
  obtain ⟨T214, h214, X214, e214, W214, st214⟩ := stR X213 hx hZ e213 Ar214 (j := (1 : Int32)) (inb_of S214 ⟨by decide, by decide⟩) rfl (Sto.ofV Ar214 q214 O210 (Ins.self F_a213.2.1)) (g := (mkF m 112 #[.val (.int (5 : Int32))] [(.ref a213), (.int (1 : Int32)), (.ref b210), (.ref b210)])) rfl rfl (hb hby d1_112)
  replace OLD := own_owr OLD W214 sz_b210
  replace hk := Nat.le_trans hk (Keep.of_wr W214).1
  replace F_a211 := F_a211.wr W214
  replace F_a213 := F_a213.wr W214
  replace Z0 := Nat.le_trans Z0 (Keep.of_wr W214).1
  have V_b210 : Arv Z h214 b210 k210 (.object "java/lang/String") (5 : Int32) [(.ref a211), (.ref a213), .null, .null, .null] .null := Arv.set Ar214 q214 S214 N214 Hh214 G214 rfl W214 1 rfl (Nat.le_of_ble_eq_true rfl)
  clear Hh214 G214 N214 S214 q214 W214
  clear Ar214
  clear cl214
  replace NF := Fr.snoc X214 NF g_b210
  refine Gl.go ?_ st214
  show Gl _ _ _ _ (T214.setTop (mkF m 113 _ [(.ref b210)]))
  refine Gl.go ?_ (fun t k => XS.dup X214.here hx rfl (hb hby d1_113) rfl rfl k)
  show Gl _ _ _ _ (T214.setTop (mkF m 114 _ [(.ref b210), (.ref b210)]))
  refine Gl.go ?_ (fun t k => XS.iconst X214.here hx rfl (hb hby d1_114) k)
  show Gl _ _ _ _ (T214.setTop (mkF m 115 #[.val (.int (5 : Int32))] [(.int (2 : Int32)), (.ref b210), (.ref b210)]))
  obtain ⟨a215, T215, h215, k215, v215, c215, X215, e215, E215, S215, hk215, hZ215, ho215, q215a, q215b, q215c, q215d, -, -, I215, -, wh215, st215⟩ := ldcSVd (s := s) (vm0 := T213.vm) X214 hx hZ hown (hw _ (List.mem_of_getElem? (i := 16) rfl)) (own_strAtoms hw) e214 hS hk (by rw [hsz]; exact NF) (fun b cl q => by rw [hh, ← hZ0]; exact q) hIB (by decide) hH13 hcw (vs := [.int (own_ch 2)]) (z := 1) ⟨by decide, rfl⟩ (by decide) rfl (g := (mkF m 115 #[.val (.int (5 : Int32))] [(.int (2 : Int32)), (.ref b210), (.ref b210)])) rfl (hb hby d1_115) (n := 4) (by decide) (by decide) (by decide) (by decide)
  have F_a215 : StrO Z b210 (own_ch 2) h215 a215 := StrO.mk' q215a q215b q215c q215d wh215 (by rw [hsz]; exact g_b210) V_b210.lt
  replace OLD := own_oext OLD E215
  replace hk := Nat.le_trans hk E215.1
  replace F_a211 := F_a211.ext E215
  replace F_a213 := F_a213.ext E215
  replace V_b210 := V_b210.ext E215
  replace Z0 := Nat.le_trans Z0 E215.1
  replace hS := S215
  replace hk := hk215
  replace hZ := hZ215
  replace hown := ho215
  replace hIB := I215
  clear q215a q215b q215c q215d wh215
  refine Gl.go ?_ st215
  show Gl _ _ _ _ (T215.setTop (mkF m 117 #[.val (.int (5 : Int32))] [(.ref a215), (.int (2 : Int32)), (.ref b210), (.ref b210)]))
  obtain ⟨cl216, Ar216, q216, S216, N216, Hh216, G216⟩ := V_b210
  obtain ⟨T216, h216, X216, e216, W216, st216⟩ := stR X215 hx hZ e215 Ar216 (j := (2 : Int32)) (inb_of S216 ⟨by decide, by decide⟩) rfl (Sto.ofV Ar216 q216 O210 (Ins.self F_a215.2.1)) (g := (mkF m 117 #[.val (.int (5 : Int32))] [(.ref a215), (.int (2 : Int32)), (.ref b210), (.ref b210)])) rfl rfl (hb hby d1_117)
  replace OLD := own_owr OLD W216 sz_b210
  replace hk := Nat.le_trans hk (Keep.of_wr W216).1
  replace F_a211 := F_a211.wr W216
  replace F_a213 := F_a213.wr W216
  replace F_a215 := F_a215.wr W216
  replace Z0 := Nat.le_trans Z0 (Keep.of_wr W216).1
  have V_b210 : Arv Z h216 b210 k210 (.object "java/lang/String") (5 : Int32) [(.ref a211), (.ref a213), (.ref a215), .null, .null] .null := Arv.set Ar216 q216 S216 N216 Hh216 G216 rfl W216 2 rfl (Nat.le_of_ble_eq_true rfl)
  clear Hh216 G216 N216 S216 q216 W216
  clear Ar216
  clear cl216
  replace NF := Fr.snoc X216 NF g_b210
  refine Gl.go ?_ st216
  show Gl _ _ _ _ (T216.setTop (mkF m 118 _ [(.ref b210)]))
  refine Gl.go ?_ (fun t k => XS.dup X216.here hx rfl (hb hby d1_118) rfl rfl k)
  show Gl _ _ _ _ (T216.setTop (mkF m 119 _ [(.ref b210), (.ref b210)]))
  refine Gl.go ?_ (fun t k => XS.iconst X216.here hx rfl (hb hby d1_119) k)
  show Gl _ _ _ _ (T216.setTop (mkF m 120 #[.val (.int (5 : Int32))] [(.int (3 : Int32)), (.ref b210), (.ref b210)]))
  obtain ⟨a217, T217, h217, k217, v217, c217, X217, e217, E217, S217, hk217, hZ217, ho217, q217a, q217b, q217c, q217d, -, -, I217, -, wh217, st217⟩ := ldcSVd (s := s) (vm0 := T215.vm) X216 hx hZ hown (hw _ (List.mem_of_getElem? (i := 84) rfl)) (own_strAtoms hw) e216 hS hk (by rw [hsz]; exact NF) (fun b cl q => by rw [hh, ← hZ0]; exact q) hIB (by decide) hH15 hcw (vs := [.int (own_ch 3)]) (z := 1) ⟨by decide, rfl⟩ (by decide) rfl (g := (mkF m 120 #[.val (.int (5 : Int32))] [(.int (3 : Int32)), (.ref b210), (.ref b210)])) rfl (hb hby d1_120) (n := 4) (by decide) (by decide) (by decide) (by decide)
  have F_a217 : StrO Z b210 (own_ch 3) h217 a217 := StrO.mk' q217a q217b q217c q217d wh217 (by rw [hsz]; exact g_b210) V_b210.lt
  replace OLD := own_oext OLD E217
  replace hk := Nat.le_trans hk E217.1
  replace F_a211 := F_a211.ext E217
  replace F_a213 := F_a213.ext E217
  replace F_a215 := F_a215.ext E217
  replace V_b210 := V_b210.ext E217
  replace Z0 := Nat.le_trans Z0 E217.1
  replace hS := S217
  replace hk := hk217
  replace hZ := hZ217
  replace hown := ho217
  replace hIB := I217
  clear q217a q217b q217c q217d wh217
  refine Gl.go ?_ st217
  show Gl _ _ _ _ (T217.setTop (mkF m 122 #[.val (.int (5 : Int32))] [(.ref a217), (.int (3 : Int32)), (.ref b210), (.ref b210)]))
  obtain ⟨cl218, Ar218, q218, S218, N218, Hh218, G218⟩ := V_b210
  obtain ⟨T218, h218, X218, e218, W218, st218⟩ := stR X217 hx hZ e217 Ar218 (j := (3 : Int32)) (inb_of S218 ⟨by decide, by decide⟩) rfl (Sto.ofV Ar218 q218 O210 (Ins.self F_a217.2.1)) (g := (mkF m 122 #[.val (.int (5 : Int32))] [(.ref a217), (.int (3 : Int32)), (.ref b210), (.ref b210)])) rfl rfl (hb hby d1_122)
  replace OLD := own_owr OLD W218 sz_b210
  replace hk := Nat.le_trans hk (Keep.of_wr W218).1
  replace F_a211 := F_a211.wr W218
  replace F_a213 := F_a213.wr W218
  replace F_a215 := F_a215.wr W218
  replace F_a217 := F_a217.wr W218
  replace Z0 := Nat.le_trans Z0 (Keep.of_wr W218).1
  have V_b210 : Arv Z h218 b210 k210 (.object "java/lang/String") (5 : Int32) [(.ref a211), (.ref a213), (.ref a215), (.ref a217), .null] .null := Arv.set Ar218 q218 S218 N218 Hh218 G218 rfl W218 3 rfl (Nat.le_of_ble_eq_true rfl)
  clear Hh218 G218 N218 S218 q218 W218
  clear Ar218
  clear cl218
  replace NF := Fr.snoc X218 NF g_b210
  refine Gl.go ?_ st218
  show Gl _ _ _ _ (T218.setTop (mkF m 123 _ [(.ref b210)]))
  refine Gl.go ?_ (fun t k => XS.dup X218.here hx rfl (hb hby d1_123) rfl rfl k)
  show Gl _ _ _ _ (T218.setTop (mkF m 124 _ [(.ref b210), (.ref b210)]))
  refine Gl.go ?_ (fun t k => XS.iconst X218.here hx rfl (hb hby d1_124) k)
  show Gl _ _ _ _ (T218.setTop (mkF m 125 #[.val (.int (5 : Int32))] [(.int (4 : Int32)), (.ref b210), (.ref b210)]))
  obtain ⟨a219, T219, h219, k219, v219, c219, X219, e219, E219, S219, hk219, hZ219, ho219, q219a, q219b, q219c, q219d, -, -, I219, -, wh219, st219⟩ := ldcSVd (s := s) (vm0 := T217.vm) X218 hx hZ hown (hw _ (List.mem_of_getElem? (i := 158) rfl)) (own_strAtoms hw) e218 hS hk (by rw [hsz]; exact NF) (fun b cl q => by rw [hh, ← hZ0]; exact q) hIB (by decide) hH17 hcw (vs := [.int (own_ch 4)]) (z := 1) ⟨by decide, rfl⟩ (by decide) rfl (g := (mkF m 125 #[.val (.int (5 : Int32))] [(.int (4 : Int32)), (.ref b210), (.ref b210)])) rfl (hb hby d1_125) (n := 4) (by decide) (by decide) (by decide) (by decide)
  have F_a219 : StrO Z b210 (own_ch 4) h219 a219 := StrO.mk' q219a q219b q219c q219d wh219 (by rw [hsz]; exact g_b210) V_b210.lt
  replace OLD := own_oext OLD E219
  replace hk := Nat.le_trans hk E219.1
  replace F_a211 := F_a211.ext E219
  replace F_a213 := F_a213.ext E219
  replace F_a215 := F_a215.ext E219
  replace F_a217 := F_a217.ext E219
  replace V_b210 := V_b210.ext E219
  replace Z0 := Nat.le_trans Z0 E219.1
  replace hS := S219
  replace hk := hk219
  replace hZ := hZ219
  replace hown := ho219
  replace hIB := I219
  clear q219a q219b q219c q219d wh219
  refine Gl.go ?_ st219
  show Gl _ _ _ _ (T219.setTop (mkF m 127 #[.val (.int (5 : Int32))] [(.ref a219), (.int (4 : Int32)), (.ref b210), (.ref b210)]))
  obtain ⟨cl220, Ar220, q220, S220, N220, Hh220, G220⟩ := V_b210
  obtain ⟨T220, h220, X220, e220, W220, st220⟩ := stR X219 hx hZ e219 Ar220 (j := (4 : Int32)) (inb_of S220 ⟨by decide, by decide⟩) rfl (Sto.ofV Ar220 q220 O210 (Ins.self F_a219.2.1)) (g := (mkF m 127 #[.val (.int (5 : Int32))] [(.ref a219), (.int (4 : Int32)), (.ref b210), (.ref b210)])) rfl rfl (hb hby d1_127)
  replace OLD := own_owr OLD W220 sz_b210
  replace hk := Nat.le_trans hk (Keep.of_wr W220).1
  replace F_a211 := F_a211.wr W220
  replace F_a213 := F_a213.wr W220
  replace F_a215 := F_a215.wr W220
  replace F_a217 := F_a217.wr W220
  replace F_a219 := F_a219.wr W220
  replace Z0 := Nat.le_trans Z0 (Keep.of_wr W220).1
  have V_b210 : Arv Z h220 b210 k210 (.object "java/lang/String") (5 : Int32) [(.ref a211), (.ref a213), (.ref a215), (.ref a217), (.ref a219)] .null := Arv.set Ar220 q220 S220 N220 Hh220 G220 rfl W220 4 rfl (Nat.le_of_ble_eq_true rfl)
  clear Hh220 G220 N220 S220 q220 W220
  clear Ar220
  clear cl220
  replace NF := Fr.snoc X220 NF g_b210
  refine Gl.go ?_ st220
  show Gl _ _ _ _ (T220.setTop (mkF m 128 _ [(.ref b210)]))
  obtain ⟨fs, hr, hrun, hended, -, hW, hpp, hsame⟩ := Stand.leaveW (s := s) (vm₁ := T219.vm) X220 hS (by rw [e220]; exact hk) (v := some (.ref b210)) (fun h => by rw [Bd.returns] at h; cases h) (BodyLoose.notSynchronized Bd)
  exact Gl.mk ⟨_, _, retOut X220 hx Bd.returns rfl (Or.inr (Or.inr (Or.inr (Or.inr ⟨rfl, rfl, rfl⟩)))) (hb hby d1_128) hr, hrun, hended, _, _, rfl, own_cast (P := fun H v L => QNM Z 5 h0 n0 v H L) e220 ⟨NF, b210, (own_fn [a211, a213, a215, a217, a219]), rfl, OLD, RA.of V_b210 5 rfl (own_lt5 rfl rfl rfl rfl rfl), own_lt5 F_a211.is F_a213.is F_a215.is F_a217.is F_a219.is⟩, ⟨_, rfl⟩, hW, hpp, hsame.mono (by decide) (by decide)⟩
theorem rm_nms (l : Launch) (Z : State) (a0 : Array Value) (hw : ∀ d ∈ tables_1, d.before a0 Z = true) (ws : List Jvm.Cond) (n : Nat) (hn5 : n ≤ 5) (h0 : Heap) (n0 : Nat) (Z0 : n0 ≤ h0.size) (hn0 : n0 = h0.size) (hZ0 : Z.heap = h0) (hH9 : Jvm.Lit.constHeld Z "com/example/grantline/grantline/engine/ActionsImpliedMaskPinLaw" 9) (hH11 : Jvm.Lit.constHeld Z "com/example/grantline/grantline/engine/ActionsImpliedMaskPinLaw" 11) (hH13 : Jvm.Lit.constHeld Z "com/example/grantline/grantline/engine/ActionsImpliedMaskPinLaw" 13) (hH15 : Jvm.Lit.constHeld Z "com/example/grantline/grantline/engine/ActionsImpliedMaskPinLaw" 15) (hH17 : Jvm.Lit.constHeld Z "com/example/grantline/grantline/engine/ActionsImpliedMaskPinLaw" 17) (hcw : Jvm.Lit.compactW.before a0 Z = true) :
    MetFree l (⟨"com/example/grantline/grantline/engine/ActionsImpliedMaskPinLaw", "names", "(I)[Ljava/lang/String;"⟩ : MethodName) (head1 (Jvm.Cond.code (⟨"com/example/grantline/grantline/engine/ActionsImpliedMaskPinLaw", "names", "(I)[Ljava/lang/String;"⟩ : MethodName) method_2_code 1 (some (.array (.object "java/lang/String"))) :: ws) ({ frames := 0, cells := 11, slots := 45, locals := 0 } : Room)) (fun aQ U => aQ = #[(.int (Int32.ofNat n))] ∧ Z.Warmed39 U.vm ∧ U.heap = h0 ∧ IB Z U.vm []) (fun _ _ _ _ _ => True) (fun _ U o U' => ∃ vQ LQ, o = .returned vQ ∧ QNM Z n h0 n0 vQ U'.heap LQ ∧ ReturnedEndW U o U' LQ ({ frames := 0, cells := 11, slots := 45, locals := 0 } : Room).cells ({ frames := 0, cells := 11, slots := 45, locals := 0 } : Room).slots) := by
  obtain rfl | rfl | rfl | rfl | rfl | rfl : n = 0 ∨ n = 1 ∨ n = 2 ∨ n = 3 ∨ n = 4 ∨ n = 5 := by omega
  · exact rm_nms_0 l Z a0 hw ws h0 n0 Z0 hn0 hZ0 hH9 hH11 hH13 hH15 hH17 hcw
  · exact rm_nms_1 l Z a0 hw ws h0 n0 Z0 hn0 hZ0 hH9 hH11 hH13 hH15 hH17 hcw
  · exact rm_nms_2 l Z a0 hw ws h0 n0 Z0 hn0 hZ0 hH9 hH11 hH13 hH15 hH17 hcw
  · exact rm_nms_3 l Z a0 hw ws h0 n0 Z0 hn0 hZ0 hH9 hH11 hH13 hH15 hH17 hcw
  · exact rm_nms_4 l Z a0 hw ws h0 n0 Z0 hn0 hZ0 hH9 hH11 hH13 hH15 hH17 hcw
  · exact rm_nms_5 l Z a0 hw ws h0 n0 Z0 hn0 hZ0 hH9 hH11 hH13 hH15 hH17 hcw
theorem rm_ai1 (l : Launch) (Z : State) (a0 : Array Value) (hw : ∀ d ∈ tables_1, d.before a0 Z = true) (ws : List Jvm.Cond) (n : Nat) (hn5 : n ≤ 5) (a ns : Addr) (A : Nat → Addr) (em el : Addr) (u_names u_implied : Value) (h0 : Heap) (n0 : Nat) (Z0 : n0 ≤ h0.size) (E_a : Exa Z h0 a "com/example/grantline/grantline/engine/Actions") (g_a : n0 ≤ a) (F_names_a : Fld Z h0 a "com/example/grantline/grantline/engine/Actions" "names" "Ljava/util/List;" u_names) (F_implied_a : Fld Z h0 a "com/example/grantline/grantline/engine/Actions" "implied" "[I" u_implied) (hna : ns ≠ a) (hNS : RA Z h0 ns (.object "java/lang/String") (Int32.ofNat n) A) (hE : ∀ i, i < n → Exa Z h0 (A i) "java/lang/String") (S_EM : Sta Z h0 "java/util/ImmutableCollections" "EMPTY" "Ljava/lang/Object;" (.ref em)) (S_EL : Sta Z h0 "java/util/ImmutableCollections" "EMPTY_LIST" "Ljava/util/ImmutableCollections$ListN;" (.ref el)) :
    MetFree l (⟨"com/example/grantline/grantline/engine/Actions", "<init>", "([Ljava/lang/String;)V"⟩ : MethodName) (head1 (Jvm.Cond.code (⟨"com/example/grantline/grantline/engine/Actions", "<init>", "([Ljava/lang/String;)V"⟩ : MethodName) prog_18_method_1_code 3 none :: ws) ({ frames := 7, cells := 3, slots := 12, locals := 91 } : Room)) (fun aQ U => aQ = #[(.ref a), (.ref ns)] ∧ Z.Warmed39 U.vm ∧ U.heap = h0) (fun _ _ _ _ _ => True) (fun _ U o U' => ∃ vQ LQ, o = .returned vQ ∧ QA1 Z a n A h0 n0 vQ U'.heap LQ ∧ FrameEnd U o U' LQ ({ frames := 7, cells := 3, slots := 12, locals := 91 } : Room).cells ({ frames := 7, cells := 3, slots := 12, locals := 91 } : Room).slots) := by
  obtain rfl | rfl | rfl | rfl | rfl | rfl : n = 0 ∨ n = 1 ∨ n = 2 ∨ n = 3 ∨ n = 4 ∨ n = 5 := by omega
  · exact rm_ai1_0 l Z a0 hw ws a ns A em el u_names u_implied h0 n0 Z0 E_a g_a F_names_a F_implied_a hna hNS hE S_EM S_EL
  · exact rm_ai1_1 l Z a0 hw ws a ns A em el u_names u_implied h0 n0 Z0 E_a g_a F_names_a F_implied_a hna hNS hE S_EM S_EL
  · exact rm_ai1_2 l Z a0 hw ws a ns A em el u_names u_implied h0 n0 Z0 E_a g_a F_names_a F_implied_a hna hNS hE S_EM S_EL
  · exact rm_ai1_3 l Z a0 hw ws a ns A em el u_names u_implied h0 n0 Z0 E_a g_a F_names_a F_implied_a hna hNS hE S_EM S_EL
  · exact rm_ai1_4 l Z a0 hw ws a ns A em el u_names u_implied h0 n0 Z0 E_a g_a F_names_a F_implied_a hna hNS hE S_EM S_EL
  · exact rm_ai1_5 l Z a0 hw ws a ns A em el u_names u_implied h0 n0 Z0 E_a g_a F_names_a F_implied_a hna hNS hE S_EM S_EL
theorem own_ibw {Z s : State} {Ts : List String} {vm : Vm} (I : IB Z s.vm Ts) (h : s.WarmedH vm) : IB Z vm Ts := by
  obtain ⟨mo, q, r⟩ := I; exact ⟨mo, h.interned_eq.trans q, r⟩
theorem IA.ba {Z : State} {h : Heap} {a : Addr} {xs : List Int32} (I : IA Z h a xs) (n : Nat) (hl : xs.length = n) (hn : n ≤ 5) : BA Z h a .int (Int32.ofNat n) (nth xs) := by
  obtain ⟨k, V, -⟩ := I
  rw [hl] at V
  exact BA.of xs V (by rw [own_tn hn, hl]; exact Nat.le_refl _)
theorem own_lenu (xs : List Int32) (x y : Nat) : (own_upd xs x y).length = xs.length := by rw [own_upd, List.length_set]
theorem own_rem7 (x b : Int32) (k : Nat) (hb : 0 < k) (hk : b.toInt = k) : ∃ n : Nat, n < k ∧ (x &&& (7 : Int32)) % b = Int32.ofNat n := by
  have h0 : (x &&& (7 : Int32)).toInt = x.toInt % 2 ^ 3 := Jvm.Kit.i32_mask x 7 (k := 3) (by decide) (by decide)
  have h3 : 0 ≤ (x &&& (7 : Int32)).toInt := by omega
  have e : ((x &&& (7 : Int32)) % b).toInt = (x &&& (7 : Int32)).toInt % b.toInt := by
    rw [Int32.toInt_mod, Int.tmod_eq_emod_of_nonneg h3]
  have h1 : 0 ≤ ((x &&& (7 : Int32)) % b).toInt := by rw [e]; exact Int.emod_nonneg _ (by omega)
  have h2 : ((x &&& (7 : Int32)) % b).toInt < b.toInt := by rw [e]; exact Int.emod_lt_of_pos _ (by omega)
  exact ⟨_, by omega, own_nat h1⟩
theorem own_n6 (x : Int32) : ((x &&& (7 : Int32)) % (6 : Int32)) = (0 : Int32) ∨ ((x &&& (7 : Int32)) % (6 : Int32)) = (1 : Int32) ∨ ((x &&& (7 : Int32)) % (6 : Int32)) = (2 : Int32) ∨ ((x &&& (7 : Int32)) % (6 : Int32)) = (3 : Int32) ∨ ((x &&& (7 : Int32)) % (6 : Int32)) = (4 : Int32) ∨ ((x &&& (7 : Int32)) % (6 : Int32)) = (5 : Int32) := by
  obtain ⟨n, h, q⟩ := own_rem7 x 6 6 (by decide) rfl
  obtain rfl | rfl | rfl | rfl | rfl | rfl : n = 0 ∨ n = 1 ∨ n = 2 ∨ n = 3 ∨ n = 4 ∨ n = 5 := by omega
  · exact Or.inl q
  · exact Or.inr (Or.inl q)
  · exact Or.inr (Or.inr (Or.inl q))
  · exact Or.inr (Or.inr (Or.inr (Or.inl q)))
  · exact Or.inr (Or.inr (Or.inr (Or.inr (Or.inl q))))
  · exact Or.inr (Or.inr (Or.inr (Or.inr (Or.inr (q)))))
theorem own_bv (u b : Int32) (i : Nat) (hi : i < 32) (hb : b.toBitVec = BitVec.twoPow 32 i) : (if (u &&& b) = 0 then (0 : Int32) else b) = u &&& b := by
  by_cases h : (u &&& b) = 0
  · rw [if_pos h, h]
  · rw [if_neg h]
    apply Int32.toBitVec_inj.mp
    rw [Int32.toBitVec_and, hb, BitVec.and_twoPow]
    split
    · rfl
    · next q =>
      exfalso; apply h
      apply Int32.toBitVec_inj.mp
      rw [Int32.toBitVec_and, hb, BitVec.and_twoPow, if_neg q]
      rfl
theorem own_ors (c mx : Int32) (p : Prop) [Decidable p] : (if p then mx else (mx ||| c)) = mx ||| (if p then 0 else c) := by
  split
  · exact (Int32.or_zero).symm
  · rfl
theorem own_and_or (u a b : Int32) : (u &&& a) ||| (u &&& b) = u &&& (a ||| b) := by
  apply Int32.toBitVec_inj.mp
  simp only [Int32.toBitVec_or, Int32.toBitVec_and]
  ext i hi
  simp only [BitVec.getElem_or, BitVec.getElem_and]
  cases u.toBitVec[i] <;> cases a.toBitVec[i] <;> cases b.toBitVec[i] <;> rfl
theorem own_mskor (f : Int32 → Int32) (u : Int32) : ∀ (k : Nat) (i mx : Int32), f_msk f u k i mx = mx ||| f_msk f u k i 0
  | 0, i, mx => by rw [f_msk, f_msk, Int32.or_zero]
  | k + 1, i, mx => by
    rw [f_msk, f_msk, own_ors, own_ors, Int32.zero_or]
    generalize (if (u &&& ((1 : Int32) <<< (i &&& 31))) = (0 : Int32) then (0 : Int32) else f i) = c
    rw [own_mskor f u k (i + 1) (mx ||| c), own_mskor f u k (i + 1) c, Int32.or_assoc]
theorem own_mu (f g : Int32 → Int32) (u v : Int32) (y : Nat) (hg : ∀ j : Nat, j < 5 → g (Int32.ofNat j) = if j = y then f (Int32.ofNat j) ||| v else f (Int32.ofNat j)) : ∀ (k i : Nat), i + k ≤ 5 → f_msk g u k (Int32.ofNat i) 0 = f_msk f u k (Int32.ofNat i) 0 ||| (if i ≤ y ∧ y < i + k then (if (u &&& ((1 : Int32) <<< ((Int32.ofNat y) &&& 31))) = (0 : Int32) then 0 else v) else 0)
  | 0, i, _ => by rw [f_msk, f_msk, if_neg (by omega), Int32.or_zero]
  | k + 1, i, h => by
    have e1 : Int32.ofNat i + 1 = Int32.ofNat (i + 1) := (Int32.ofNat_add i 1).symm
    have ih := own_mu f g u v y hg k (i + 1) (by omega)
    rw [f_msk, f_msk, own_mskor g u k, own_mskor f u k, e1, ih, hg i (by omega)]
    by_cases q : i = y
    · subst q
      rw [if_pos rfl, if_neg (by omega : ¬ (i + 1 ≤ i ∧ i < i + 1 + k)), if_pos (by omega : i ≤ i ∧ i < i + (k + 1))]
      by_cases c : (u &&& ((1 : Int32) <<< ((Int32.ofNat i) &&& 31))) = (0 : Int32)
      · simp only [if_pos c, Int32.or_zero]
      · simp only [if_neg c, Int32.or_zero, Int32.zero_or]
        rw [Int32.or_assoc, Int32.or_comm v, Int32.or_assoc]
    · rw [if_neg q, ← Int32.or_assoc]
      by_cases c : i + 1 ≤ y ∧ y < i + 1 + k
      · rw [if_pos c, if_pos (by omega : i ≤ y ∧ y < i + (k + 1))]
      · rw [if_neg c, if_neg (by omega : ¬ (i ≤ y ∧ y < i + (k + 1)))]
theorem own_updat (xs : List Int32) (x y j : Nat) (hy : y < xs.length) (hj : j < 5) (h5 : xs.length ≤ 5) : nth (own_upd xs x y) (Int32.ofNat j) = if j = y then nth xs (Int32.ofNat j) ||| ((1 : Int32) <<< ((Int32.ofNat x) &&& 31)) else nth xs (Int32.ofNat j) := by
  rw [nth, own_tn (by omega), own_upd]
  by_cases q : j = y
  · subst q
    rw [if_pos rfl, List.getD_eq_getElem?_getD, List.getElem?_set_self hy]
    rfl
  · rw [if_neg q, List.getD_eq_getElem?_getD, List.getElem?_set_ne (Ne.symm q), nth, own_tn (by omega), List.getD_eq_getElem?_getD]
theorem own_f12 (u : Int32) (x : Nat) {y n : Nat} {xs : List Int32} (hl : xs.length = n) (hy : y < n) (hn : n ≤ 5) : f_mask u n (nth (own_upd xs x y)) = (f_mask u n (nth xs) ||| (if (u &&& ((1 : Int32) <<< ((Int32.ofNat y) &&& 31))) = (0 : Int32) then 0 else ((1 : Int32) <<< ((Int32.ofNat x) &&& 31)))) := by
  have q := own_mu (nth xs) (nth (own_upd xs x y)) u _ y (fun j hj => own_updat xs x y j (by omega) hj (by omega)) n 0 (by omega)
  rw [if_pos (by omega)] at q
  exact q
theorem own_f1 (u : Int32) (x : Nat) {y n : Nat} {xs : List Int32} (hl : xs.length = n) (h : (u &&& ((1 : Int32) <<< ((Int32.ofNat y) &&& 31))) = (0 : Int32)) (hy : y < n) (hn : n ≤ 5) : f_mask u n (nth (own_upd xs x y)) = f_mask u n (nth xs) := by
  rw [own_f12 u x hl hy hn, if_pos h, Int32.or_zero]
theorem own_f2 (u : Int32) (x : Nat) {y n : Nat} {xs : List Int32} (hl : xs.length = n) (h : ¬ (u &&& ((1 : Int32) <<< ((Int32.ofNat y) &&& 31))) = (0 : Int32)) (hy : y < n) (hn : n ≤ 5) : f_mask u n (nth (own_upd xs x y)) = (f_mask u n (nth xs) ||| ((1 : Int32) <<< ((Int32.ofNat x) &&& 31))) := by
  rw [own_f12 u x hl hy hn, if_neg h]
theorem own_or {a b c : Int32} (h : a = b) : (a ||| c) = (b ||| c) := by rw [h]
theorem own_st (f : Int32 → Int32) (u i b : Int32) (j : Nat) (hj : j < 32) (hb : b.toBitVec = BitVec.twoPow 32 j) (h1 : (1 : Int32) <<< (i &&& 31) = b) (h2 : f i = b) (k : Nat) (mx : Int32) : f_msk f u (k + 1) i mx = f_msk f u k (i + 1) (mx ||| (u &&& b)) := by
  rw [f_msk, own_ors, h1, h2, own_bv u b j hj hb]
theorem own_f0_0 (u : Int32) : f_mask u 0 (nth (own_bits 0)) = (u &&& (((1 : Int32) <<< ((0 : Int32) &&& 31)) - (1 : Int32))) := by
  rw [f_mask, show (((1 : Int32) <<< ((0 : Int32) &&& 31)) - (1 : Int32)) = 0 from by decide]
  rw [f_msk]
  exact (Int32.and_zero).symm
theorem own_f0_1 (u : Int32) : f_mask u 1 (nth (own_bits 1)) = (u &&& (((1 : Int32) <<< ((1 : Int32) &&& 31)) - (1 : Int32))) := by
  rw [f_mask, show (((1 : Int32) <<< ((1 : Int32) &&& 31)) - (1 : Int32)) = 1 from by decide]
  rw [own_st _ u 0 1 0 (by decide) (by decide) (by decide) (by decide)]
  rw [f_msk]
  rw [Int32.zero_or]
theorem own_f0_2 (u : Int32) : f_mask u 2 (nth (own_bits 2)) = (u &&& (((1 : Int32) <<< ((2 : Int32) &&& 31)) - (1 : Int32))) := by
  rw [f_mask, show (((1 : Int32) <<< ((2 : Int32) &&& 31)) - (1 : Int32)) = 3 from by decide]
  rw [own_st _ u 0 1 0 (by decide) (by decide) (by decide) (by decide)]
  rw [own_st _ u (0 + 1) 2 1 (by decide) (by decide) (by decide) (by decide)]
  rw [f_msk]
  rw [Int32.zero_or, own_and_or]
  exact congrArg (u &&& ·) (by decide)
theorem own_f0_3 (u : Int32) : f_mask u 3 (nth (own_bits 3)) = (u &&& (((1 : Int32) <<< ((3 : Int32) &&& 31)) - (1 : Int32))) := by
  rw [f_mask, show (((1 : Int32) <<< ((3 : Int32) &&& 31)) - (1 : Int32)) = 7 from by decide]
  rw [own_st _ u 0 1 0 (by decide) (by decide) (by decide) (by decide)]
  rw [own_st _ u (0 + 1) 2 1 (by decide) (by decide) (by decide) (by decide)]
  rw [own_st _ u (0 + 1 + 1) 4 2 (by decide) (by decide) (by decide) (by decide)]
  rw [f_msk]
  rw [Int32.zero_or, own_and_or, own_and_or]
  exact congrArg (u &&& ·) (by decide)
theorem own_f0_4 (u : Int32) : f_mask u 4 (nth (own_bits 4)) = (u &&& (((1 : Int32) <<< ((4 : Int32) &&& 31)) - (1 : Int32))) := by
  rw [f_mask, show (((1 : Int32) <<< ((4 : Int32) &&& 31)) - (1 : Int32)) = 15 from by decide]
  rw [own_st _ u 0 1 0 (by decide) (by decide) (by decide) (by decide)]
  rw [own_st _ u (0 + 1) 2 1 (by decide) (by decide) (by decide) (by decide)]
  rw [own_st _ u (0 + 1 + 1) 4 2 (by decide) (by decide) (by decide) (by decide)]
  rw [own_st _ u (0 + 1 + 1 + 1) 8 3 (by decide) (by decide) (by decide) (by decide)]
  rw [f_msk]
  rw [Int32.zero_or, own_and_or, own_and_or, own_and_or]
  exact congrArg (u &&& ·) (by decide)
theorem own_f0_5 (u : Int32) : f_mask u 5 (nth (own_bits 5)) = (u &&& (((1 : Int32) <<< ((5 : Int32) &&& 31)) - (1 : Int32))) := by
  rw [f_mask, show (((1 : Int32) <<< ((5 : Int32) &&& 31)) - (1 : Int32)) = 31 from by decide]
  rw [own_st _ u 0 1 0 (by decide) (by decide) (by decide) (by decide)]
  rw [own_st _ u (0 + 1) 2 1 (by decide) (by decide) (by decide) (by decide)]
  rw [own_st _ u (0 + 1 + 1) 4 2 (by decide) (by decide) (by decide) (by decide)]
  rw [own_st _ u (0 + 1 + 1 + 1) 8 3 (by decide) (by decide) (by decide) (by decide)]
  rw [own_st _ u (0 + 1 + 1 + 1 + 1) 16 4 (by decide) (by decide) (by decide) (by decide)]
  rw [f_msk]
  rw [Int32.zero_or, own_and_or, own_and_or, own_and_or, own_and_or]
  exact congrArg (u &&& ·) (by decide)
theorem own_bl {n : Nat} (hn : n ≤ 5) : (own_bits n).length = n := by
  obtain rfl | rfl | rfl | rfl | rfl | rfl : n = 0 ∨ n = 1 ∨ n = 2 ∨ n = 3 ∨ n = 4 ∨ n = 5 := by omega
  · exact rfl
  · exact rfl
  · exact rfl
  · exact rfl
  · exact rfl
  · exact rfl
theorem own_f0 (u : Int32) {n : Nat} (hn : n ≤ 5) : f_mask u n (nth (own_bits n)) = (u &&& (((1 : Int32) <<< ((Int32.ofNat n) &&& 31)) - (1 : Int32))) := by
  obtain rfl | rfl | rfl | rfl | rfl | rfl : n = 0 ∨ n = 1 ∨ n = 2 ∨ n = 3 ∨ n = 4 ∨ n = 5 := by omega
  · exact own_f0_0 u
  · exact own_f0_1 u
  · exact own_f0_2 u
  · exact own_f0_3 u
  · exact own_f0_4 u
  · exact own_f0_5 u
theorem own_pos {n : Nat} (h : 1 ≤ n) (hn : n ≤ 5) : (0 : Int32) < Int32.ofNat n := by
  rw [Int32.lt_iff_toInt_lt, Int32.toInt_ofNat_of_lt (by omega)]; show (0 : Int) < n; omega
theorem own_nzn {n : Nat} (h : 1 ≤ n) (hn : n ≤ 5) : ¬ Int32.ofNat n = 0 := fun q => by
  have p := own_pos h hn
  rw [q] at p
  exact absurd p (by decide)
theorem own_ton {n : Nat} (hn : n ≤ 5) : (Int32.ofNat n).toInt = n := Int32.toInt_ofNat_of_lt (by omega)
theorem pn_0 : plainName "com/example/grantline/grantline/engine/ActionsImpliedMaskPinLaw" = true := by first | (simp [plainName, overriddenIn]; done) | decide +kernel
theorem pd_12 : parseMethodDescriptor "(I)[Ljava/lang/String;" = some ⟨[.int], some (.array (.object "java/lang/String"))⟩ := by decide +kernel
theorem pd_13 : parseMethodDescriptor "([Ljava/lang/String;)V" = some ⟨[(.array (.object "java/lang/String"))], none⟩ := by decide +kernel
theorem pd_14 : parseMethodDescriptor "(I)I" = some ⟨[.int], some .int⟩ := by decide +kernel
theorem ef_rm0_0 (m : MethodId) (x0 : Int32) (x1 : Int32) (x2 : Int32) : entryFrame m #[(.int x0), (.int x1), (.int x2)] maxLocals = mkF m 0 #[.val (.int x0), .val (.int x1), .val (.int x2), .unset, .unset, .unset, .unset, .unset, .unset, .unset, .unset, .unset, .unset] [] := by first | (simp [entryFrame, mkF, argsToLocals, Value.category, maxLocals]; done) | rfl
set_option maxRecDepth 65536 in
set_option maxHeartbeats 40000000 in
theorem rm0_0 (l : Launch) (Z : State) (a0 : Array Value) (hw : ∀ d ∈ tables_1, d.before a0 Z = true) (ws : List Jvm.Cond) (u0 : Int32) (u1 : Int32) (u2 : Int32) (cs : Int32) (em el : Addr) (h0 : Heap) (n0 : Nat) (Z0 : n0 ≤ h0.size) (hn : ((u1 &&& (7 : Int32)) % (6 : Int32)) = (0 : Int32)) (hn0 : n0 = h0.size) (hZ0 : Z.heap = h0) (hH9 : Jvm.Lit.constHeld Z "com/example/grantline/grantline/engine/ActionsImpliedMaskPinLaw" 9) (hH11 : Jvm.Lit.constHeld Z "com/example/grantline/grantline/engine/ActionsImpliedMaskPinLaw" 11) (hH13 : Jvm.Lit.constHeld Z "com/example/grantline/grantline/engine/ActionsImpliedMaskPinLaw" 13) (hH15 : Jvm.Lit.constHeld Z "com/example/grantline/grantline/engine/ActionsImpliedMaskPinLaw" 15) (hH17 : Jvm.Lit.constHeld Z "com/example/grantline/grantline/engine/ActionsImpliedMaskPinLaw" 17) (hcw : Jvm.Lit.compactW.before a0 Z = true) (S_CS : Sta Z h0 "java/lang/String" "COMPACT_STRINGS" "Z" (.int cs)) (hcs : ¬ cs = 0) (S_EM : Sta Z h0 "java/util/ImmutableCollections" "EMPTY" "Ljava/lang/Object;" (.ref em)) (S_EL : Sta Z h0 "java/util/ImmutableCollections" "EMPTY_LIST" "Ljava/util/ImmutableCollections$ListN;" (.ref el)) (E_em : Exa Z h0 em "java/lang/Object") :
    MetFree l x (head1 (Jvm.Cond.code x code maxLocals ret :: ws) room_1) (fun aQ U => aQ = #[(.int u0), (.int u1), (.int u2)] ∧ Z.Warmed39 U.vm ∧ U.heap = h0 ∧ IB Z U.vm []) (fun _ _ _ _ _ => True) (fun _ U o U' => ∃ vQ LQ, o = .returned vQ ∧ (vQ = some (.int (1 : Int32)) ∧ Fr n0 LQ) ∧ ReturnedEndW U o U' LQ room_1.cells room_1.slots) := by
  refine MetFree.of_bodySF (plainFor_of_name pn_0) hisR ?_
  intro p e s m args below meth c s₁ Bd hml0 hP hK
  obtain ⟨rfl, hZ, hh, hIB⟩ := hP
  have hx := Bd.exec
  have hby := Bd.bytes
  have hml : c.maxLocals = 13 := hml0
  have hown : s.vm.findClass "com/example/grantline/grantline/engine/ActionsImpliedMaskPinLaw" = some m.cls := findClass_of_methodNamed Bd.named
  have hnm := (name_of_methodNamed Bd.named Bd.method).1
  have X0 : Stand p l e room_1 s m #[(.int u0), (.int u1), (.int u2)] below meth c s₁ [] 0 0 := Stand.of_body Bd
  have e0 : s₁.heap = h0 := by rw [← hh, Bd.state]; rfl
  have NF := Fr.nil n0
  refine Gl.out ?_
  refine Gl.go ?_ (fun t k => castTop (ef_rm0_0 m u0 u1 u2) k)
  show Gl _ _ _ _ (s₁.setTop (mkF m 0 _ []))
  refine Gl.go ?_ (fun t k => XS.iloadN X0.here hx rfl (hb hby at_0) rfl k)
  show Gl _ _ _ _ (s₁.setTop (mkF m 1 _ [(.int u1)]))
  refine Gl.go ?_ (fun t k => XS.bipush X0.here hx rfl (hb hby at_1) k)
  show Gl _ _ _ _ (s₁.setTop (mkF m 3 _ [(.int (7 : Int32)), (.int u1)]))
  refine Gl.go ?_ (fun t k => XS.iand X0.here hx rfl (hb hby at_3) rfl k)
  show Gl _ _ _ _ (s₁.setTop (mkF m 4 _ [(.int (u1 &&& (7 : Int32)))]))
  refine Gl.go ?_ (fun t k => XS.bipush X0.here hx rfl (hb hby at_4) k)
  show Gl _ _ _ _ (s₁.setTop (mkF m 6 #[.val (.int u0), .val (.int u1), .val (.int u2), .unset, .unset, .unset, .unset, .unset, .unset, .unset, .unset, .unset, .unset] [(.int (6 : Int32)), (.int (u1 &&& (7 : Int32)))]))
  refine Gl.go ?_ (fun t k => iremM X0 hx rfl (hb hby at_6) rfl (by decide) k)
  show Gl _ _ _ _ (s₁.setTop (mkF m 7 #[.val (.int u0), .val (.int u1), .val (.int u2), .unset, .unset, .unset, .unset, .unset, .unset, .unset, .unset, .unset, .unset] [(.int ((u1 &&& (7 : Int32)) % (6 : Int32)))]))
  rw [hn]
  refine Gl.go ?_ (fun t k => XS.istoreN X0.here hx rfl (hb hby at_7) rfl (l' := #[.val (.int u0), .val (.int u1), .val (.int u2), .val (.int (0 : Int32)), .unset, .unset, .unset, .unset, .unset, .unset, .unset, .unset, .unset]) rfl k)
  show Gl _ _ _ _ (s₁.setTop (mkF m 8 _ []))
  refine Gl.go ?_ (fun t k => XS.iloadN X0.here hx rfl (hb hby at_8) rfl k)
  show Gl _ _ _ _ (s₁.setTop (mkF m 9 _ [(.int (0 : Int32))]))
  refine Gl.go ?_ (fun t k => XS.ifYes X0.here hx rfl (pc0 := 9) (pc' := 24) rfl (hb hby at_9) rfl ((if0 _ _).trans (flt (by decide : ¬ ((0 : Int32) < (0 : Int32)))).2.2.2) (by decide) (by decide) k)
  show Gl _ _ _ _ (s₁.setTop (mkF m 24 _ []))
  refine Gl.go ?_ (fun t k => XS.iconst X0.here hx rfl (hb hby at_24) k)
  show Gl _ _ _ _ (s₁.setTop (mkF m 25 #[.val (.int u0), .val (.int u1), .val (.int u2), .val (.int (0 : Int32)), .unset, .unset, .unset, .unset, .unset, .unset, .unset, .unset, .unset] [(.int (0 : Int32))]))
  refine Gl.go ?_ (fun t k => XS.istore X0.here hx rfl (hb hby at_25) rfl (l' := #[.val (.int u0), .val (.int u1), .val (.int u2), .val (.int (0 : Int32)), .val (.int (0 : Int32)), .unset, .unset, .unset, .unset, .unset, .unset, .unset, .unset]) rfl k)
  show Gl _ _ _ _ (s₁.setTop (mkF m 27 _ []))
  refine Gl.go ?_ (fun t k => XS.iloadN X0.here hx rfl (hb hby at_27) rfl k)
  show Gl _ _ _ _ (s₁.setTop (mkF m 28 _ [(.int (0 : Int32))]))
  refine Gl.go ?_ (fun t k => XS.ifYes X0.here hx rfl (pc0 := 28) (pc' := 43) rfl (hb hby at_28) rfl ((if0 _ _).trans (flt (by decide : ¬ ((0 : Int32) < (0 : Int32)))).2.2.2) (by decide) (by decide) k)
  show Gl _ _ _ _ (s₁.setTop (mkF m 43 _ []))
  refine Gl.go ?_ (fun t k => XS.iconst X0.here hx rfl (hb hby at_43) k)
  show Gl _ _ _ _ (s₁.setTop (mkF m 44 #[.val (.int u0), .val (.int u1), .val (.int u2), .val (.int (0 : Int32)), .val (.int (0 : Int32)), .unset, .unset, .unset, .unset, .unset, .unset, .unset, .unset] [(.int (0 : Int32))]))
  refine Gl.go ?_ (fun t k => XS.istore X0.here hx rfl (hb hby at_44) rfl (l' := #[.val (.int u0), .val (.int u1), .val (.int u2), .val (.int (0 : Int32)), .val (.int (0 : Int32)), .val (.int (0 : Int32)), .unset, .unset, .unset, .unset, .unset, .unset, .unset]) rfl k)
  show Gl _ _ _ _ (s₁.setTop (mkF m 46 _ []))
  refine Gl.go ?_ (fun t k => XS.iloadN X0.here hx rfl (hb hby at_46) rfl k)
  show Gl _ _ _ _ (s₁.setTop (mkF m 47 #[.val (.int u0), .val (.int u1), .val (.int u2), .val (.int (0 : Int32)), .val (.int (0 : Int32)), .val (.int (0 : Int32)), .unset, .unset, .unset, .unset, .unset, .unset, .unset] [(.int (0 : Int32))]))
  obtain ⟨_, _, ⟨T221, L221, k221, n221⟩, -, X221, hS, hgr221, ⟨Lc221, hQ221, l221, y221, z221⟩, st221⟩ := callSS X0 hx (y := (⟨"com/example/grantline/grantline/engine/ActionsImpliedMaskPinLaw", "names", "(I)[Ljava/lang/String;"⟩ : MethodName)) hown (mvT hZ (hw _ (List.mem_of_getElem? (i := 0) rfl))) (mvT hZ (hw _ (List.mem_of_getElem? (i := 1) rfl))) (mvT hZ (hw _ (List.mem_of_getElem? (i := 2) rfl))) (mvT hZ (hw _ (List.mem_of_getElem? (i := 3) rfl))) (by decide) (own_back (W := 0) (rm_nms l Z a0 hw [] 0 (by decide) h0 n0 Z0 hn0 hZ0 hH9 hH11 hH13 hH15 hH17 hcw) hZ (hw _ (List.mem_of_getElem? (i := 3) rfl)) (hw _ (List.mem_of_getElem? (i := 2) rfl)) (by decide) (by decide)) (g := (mkF m 47 #[.val (.int u0), .val (.int u1), .val (.int u2), .val (.int (0 : Int32)), .val (.int (0 : Int32)), .val (.int (0 : Int32)), .unset, .unset, .unset, .unset, .unset, .unset, .unset] [(.int (0 : Int32))])) rfl (by rw [hml]; rfl) (argsL := [(.int (0 : Int32))]) (rest := []) (lenOf pd_12 rfl) rfl (by show 2 * 0 + _ ≤ _; exact Nat.le_of_eq rfl) (hb hby at_47) (fun _ hW1 => ⟨rfl, e0, ⟨(by decide : 0 + 11 ≤ _), (by decide : 0 + 45 ≤ _)⟩, own_ibw hIB hW1⟩)
  dsimp only [Pt.U, Pt.locs, Pt.cells, Pt.slots] at X221 l221 y221 z221 st221 hQ221 hS
  rw [l221, y221, z221] at X221
  clear l221 y221 z221 hgr221
  obtain ⟨Nq, ns, A, rfl, EX, hNS, hStr⟩ := hQ221
  replace NF := Fr.app NF Nq
  replace hZ : Z.Warmed39 (s.setVm T221.vm).vm := State.Warmed39.trans (t := s) hZ hS.1
  replace hown : (s.setVm T221.vm).vm.findClass "com/example/grantline/grantline/engine/ActionsImpliedMaskPinLaw" = some m.cls := by rw [show (s.setVm T221.vm).vm = T221.vm from rfl, hS.1.alike.findClass]; exact hown
  replace S_CS := S_CS.ext EX
  replace S_EM := S_EM.ext EX
  replace S_EL := S_EL.ext EX
  replace E_em := E_em.ext EX
  replace Z0 := Nat.le_trans Z0 EX.1
  have hem : 2 ≤ 0 → (A 1) ≠ em := fun q => Exa.ne (hStr 1 (Nat.lt_of_lt_of_le (by decide) q)).1 E_em (by decide)
  have OLD : Ext T221.heap T221.heap := own_erefl _
  have hk := Nat.le_refl T221.heap.size
  refine Gl.tr ?_ st221
  show Gl _ _ _ _ (T221.setTop (mkF m 50 #[.val (.int u0), .val (.int u1), .val (.int u2), .val (.int (0 : Int32)), .val (.int (0 : Int32)), .val (.int (0 : Int32)), .unset, .unset, .unset, .unset, .unset, .unset, .unset] [(.ref ns)]))
  refine Gl.go ?_ (fun t k => XS.astore X221.here hx rfl (hb hby at_50) rfl rfl (l' := #[.val (.int u0), .val (.int u1), .val (.int u2), .val (.int (0 : Int32)), .val (.int (0 : Int32)), .val (.int (0 : Int32)), .val (.ref ns), .unset, .unset, .unset, .unset, .unset, .unset]) rfl k)
  show Gl _ _ _ _ (T221.setTop (mkF m 52 _ []))
  refine Gl.go ?_ (fun t k => XS.iconst X221.here hx rfl (hb hby at_52) k)
  show Gl _ _ _ _ (T221.setTop (mkF m 53 #[.val (.int u0), .val (.int u1), .val (.int u2), .val (.int (0 : Int32)), .val (.int (0 : Int32)), .val (.int (0 : Int32)), .val (.ref ns), .unset, .unset, .unset, .unset, .unset, .unset] [(.int (0 : Int32))]))
  refine Gl.go ?_ (fun t k => XS.istore X221.here hx rfl (hb hby at_53) rfl (l' := #[.val (.int u0), .val (.int u1), .val (.int u2), .val (.int (0 : Int32)), .val (.int (0 : Int32)), .val (.int (0 : Int32)), .val (.ref ns), .val (.int (0 : Int32)), .unset, .unset, .unset, .unset, .unset]) rfl k)
  show Gl _ _ _ _ (T221.setTop (mkF m 55 _ []))
  refine Gl.go ?_ (fun t k => XS.iconst X221.here hx rfl (hb hby at_55) k)
  show Gl _ _ _ _ (T221.setTop (mkF m 56 #[.val (.int u0), .val (.int u1), .val (.int u2), .val (.int (0 : Int32)), .val (.int (0 : Int32)), .val (.int (0 : Int32)), .val (.ref ns), .val (.int (0 : Int32)), .unset, .unset, .unset, .unset, .unset] [(.int (0 : Int32))]))
  refine Gl.go ?_ (fun t k => XS.istore X221.here hx rfl (hb hby at_56) rfl (l' := #[.val (.int u0), .val (.int u1), .val (.int u2), .val (.int (0 : Int32)), .val (.int (0 : Int32)), .val (.int (0 : Int32)), .val (.ref ns), .val (.int (0 : Int32)), .val (.int (0 : Int32)), .unset, .unset, .unset, .unset]) rfl k)
  show Gl _ _ _ _ (T221.setTop (mkF m 58 _ []))
  refine Gl.go ?_ (fun t k => XS.iconst X221.here hx rfl (hb hby at_58) k)
  show Gl _ _ _ _ (T221.setTop (mkF m 59 #[.val (.int u0), .val (.int u1), .val (.int u2), .val (.int (0 : Int32)), .val (.int (0 : Int32)), .val (.int (0 : Int32)), .val (.ref ns), .val (.int (0 : Int32)), .val (.int (0 : Int32)), .unset, .unset, .unset, .unset] [(.int (0 : Int32))]))
  refine Gl.go ?_ (fun t k => XS.istore X221.here hx rfl (hb hby at_59) rfl (l' := #[.val (.int u0), .val (.int u1), .val (.int u2), .val (.int (0 : Int32)), .val (.int (0 : Int32)), .val (.int (0 : Int32)), .val (.ref ns), .val (.int (0 : Int32)), .val (.int (0 : Int32)), .val (.int (0 : Int32)), .unset, .unset, .unset]) rfl k)
  show Gl _ _ _ _ (T221.setTop (mkF m 61 _ []))
  refine Gl.go ?_ (fun t k => XS.iconst X221.here hx rfl (hb hby at_61) k)
  show Gl _ _ _ _ (T221.setTop (mkF m 62 #[.val (.int u0), .val (.int u1), .val (.int u2), .val (.int (0 : Int32)), .val (.int (0 : Int32)), .val (.int (0 : Int32)), .val (.ref ns), .val (.int (0 : Int32)), .val (.int (0 : Int32)), .val (.int (0 : Int32)), .unset, .unset, .unset] [(.int (0 : Int32))]))
  refine Gl.go ?_ (fun t k => XS.istore X221.here hx rfl (hb hby at_62) rfl (l' := #[.val (.int u0), .val (.int u1), .val (.int u2), .val (.int (0 : Int32)), .val (.int (0 : Int32)), .val (.int (0 : Int32)), .val (.ref ns), .val (.int (0 : Int32)), .val (.int (0 : Int32)), .val (.int (0 : Int32)), .val (.int (0 : Int32)), .unset, .unset]) rfl k)
  show Gl _ _ _ _ (T221.setTop (mkF m 64 _ []))
  refine Gl.go ?_ (fun t k => XS.iloadN X221.here hx rfl (hb hby at_64) rfl k)
  show Gl _ _ _ _ (T221.setTop (mkF m 65 _ [(.int (0 : Int32))]))
  refine Gl.go ?_ (fun t k => XS.ifYes X221.here hx rfl (pc0 := 65) (pc' := 108) rfl (hb hby at_65) rfl ((if0 _ _).trans (flt (by decide : ¬ ((0 : Int32) < (0 : Int32)))).2.2.2) (by decide) (by decide) k)
  show Gl _ _ _ _ (T221.setTop (mkF m 108 #[.val (.int u0), .val (.int u1), .val (.int u2), .val (.int (0 : Int32)), .val (.int (0 : Int32)), .val (.int (0 : Int32)), .val (.ref ns), .val (.int (0 : Int32)), .val (.int (0 : Int32)), .val (.int (0 : Int32)), .val (.int (0 : Int32)), .unset, .unset] []))
  obtain ⟨T222, h222, X222, e222, E222, A222, D222, -, st222⟩ := newO X221 hx hZ hown (hw _ (List.mem_of_getElem? (i := 17) rfl)) (hw _ (List.mem_of_getElem? (i := 18) rfl)) (hw _ (List.mem_of_getElem? (i := 19) rfl)) rfl (g := (mkF m 108 #[.val (.int u0), .val (.int u1), .val (.int u2), .val (.int (0 : Int32)), .val (.int (0 : Int32)), .val (.int (0 : Int32)), .val (.ref ns), .val (.int (0 : Int32)), .val (.int (0 : Int32)), .val (.int (0 : Int32)), .val (.int (0 : Int32)), .unset, .unset] [])) rfl (hb hby at_108) (by decide) (by decide)
  obtain ⟨b222, g222⟩ : ∃ z, z = T221.heap.size := ⟨_, rfl⟩
  rw [← g222] at A222 D222 st222
  have g_b222 : n0 ≤ b222 := Nat.le_trans Z0 (Nat.le_of_eq g222.symm)
  have sz_b222 : (T221.heap).size ≤ b222 := Nat.le_trans OLD.1 (Nat.le_of_eq g222.symm)
  have hi_b222 := Nat.le_trans hk (Nat.le_of_eq g222.symm)
  replace OLD := own_oext OLD E222
  replace hk := Nat.le_trans hk E222.1
  replace Z0 := Nat.le_trans Z0 E222.1
  have E_b222 := A222
  have F_names_b222 : Fld Z h222 b222 "com/example/grantline/grantline/engine/Actions" "names" "Ljava/util/List;" .null := D222 (Or.inr (hw _ (List.mem_of_getElem? (i := 76) rfl))) (ty := (.object "java/util/List")) (by decide)
  have F_implied_b222 : Fld Z h222 b222 "com/example/grantline/grantline/engine/Actions" "implied" "[I" .null := D222 (Or.inr (hw _ (List.mem_of_getElem? (i := 78) rfl))) (ty := (.array .int)) (by decide)
  refine Gl.go ?_ st222
  show Gl _ _ _ _ (T222.setTop (mkF m 111 _ [(.ref b222)]))
  refine Gl.go ?_ (fun t k => XS.dup X222.here hx rfl (hb hby at_111) rfl rfl k)
  show Gl _ _ _ _ (T222.setTop (mkF m 112 _ [(.ref b222), (.ref b222)]))
  refine Gl.go ?_ (fun t k => XS.aload X222.here hx rfl (hb hby at_112) rfl rfl k)
  show Gl _ _ _ _ (T222.setTop (mkF m 114 #[.val (.int u0), .val (.int u1), .val (.int u2), .val (.int (0 : Int32)), .val (.int (0 : Int32)), .val (.int (0 : Int32)), .val (.ref ns), .val (.int (0 : Int32)), .val (.int (0 : Int32)), .val (.int (0 : Int32)), .val (.int (0 : Int32)), .unset, .unset] [(.ref ns), (.ref b222), (.ref b222)]))
  obtain ⟨_, _, ⟨T223, L223, k223, n223⟩, -, X223, ⟨Lc223, hQ223, l223, y223, z223⟩, st223⟩ := X222.specialBack hx (y := (⟨"com/example/grantline/grantline/engine/Actions", "<init>", "([Ljava/lang/String;)V"⟩ : MethodName)) rfl hown (mvT hZ (hw _ (List.mem_of_getElem? (i := 20) rfl))) (mvT hZ (hw _ (List.mem_of_getElem? (i := 21) rfl))) (mvT hZ (hw _ (List.mem_of_getElem? (i := 22) rfl))) (by decide) (backOf (W := 1) (rm_ai1 l Z a0 hw [] 0 (by decide) b222 ns A em el _ _ h222 n0 Z0 E_b222 g_b222 F_names_b222 F_implied_b222 (Nat.ne_of_lt (Nat.lt_of_lt_of_le hNS.lt sz_b222)) (hNS.ext OLD) (fun i q => ((hStr i q).1).ext OLD) (S_EM.ext OLD) (S_EL.ext OLD)) hZ (hw _ (List.mem_of_getElem? (i := 22) rfl)) (hw _ (List.mem_of_getElem? (i := 19) rfl)) (by decide) (by decide)) (g := (mkF m 114 #[.val (.int u0), .val (.int u1), .val (.int u2), .val (.int (0 : Int32)), .val (.int (0 : Int32)), .val (.int (0 : Int32)), .val (.ref ns), .val (.int (0 : Int32)), .val (.int (0 : Int32)), .val (.int (0 : Int32)), .val (.int (0 : Int32)), .unset, .unset] [(.ref ns), (.ref b222), (.ref b222)])) rfl (by rw [hml]; rfl) (Steps.refl _) (a := b222) (argsL := [(.ref ns)]) (rest := [(.ref b222)]) (lenOf pd_13 rfl) rfl (by show 2 * 0 + _ ≤ _; exact Nat.le_of_eq rfl) (hb hby at_114) (fun _ _ => ⟨rfl, e222, (by decide : 12 + 3 ≤ _), (by decide : 47 + 12 ≤ _)⟩)
  dsimp only [Pt.U, Pt.locs, Pt.cells, Pt.slots] at X223 l223 y223 z223 st223 hQ223
  rw [l223, y223, z223] at X223
  clear l223 y223 z223
  obtain ⟨N223q, rfl, K223, ec223, ls223, ia223, fn223, fi223, lk223, iA223⟩ := hQ223
  replace NF := Fr.app NF N223q
  replace OLD := own_okeep OLD K223 (fun y hy => by cases List.mem_singleton.mp hy; exact sz_b222)
  replace hk := Nat.le_trans hk K223.1
  replace Z0 := Nat.le_trans Z0 K223.1
  replace S_CS := S_CS.ext OLD
  replace S_EM := S_EM.ext OLD
  replace S_EL := S_EL.ext OLD
  replace hNS := hNS.ext OLD
  replace hStr : ∀ i, i < 0 → StrIs Z T223.heap (A i) (own_ch i) := fun i q => (hStr i q).ext OLD
  replace OLD : Ext T223.heap T223.heap := own_erefl _
  have E_act := ec223
  have F_nm := fn223
  have F_im := fi223
  have hLK := lk223
  have hIA := iA223
  have hlx : (own_bits 0).length = 0 := own_bl (by decide)
  refine Gl.tr ?_ st223
  show Gl _ _ _ _ (T223.setTop (mkF m 117 #[.val (.int u0), .val (.int u1), .val (.int u2), .val (.int (0 : Int32)), .val (.int (0 : Int32)), .val (.int (0 : Int32)), .val (.ref ns), .val (.int (0 : Int32)), .val (.int (0 : Int32)), .val (.int (0 : Int32)), .val (.int (0 : Int32)), .unset, .unset] [(.ref b222)]))
  refine Gl.go ?_ (fun t k => XS.astore X223.here hx rfl (hb hby at_117) rfl rfl (l' := #[.val (.int u0), .val (.int u1), .val (.int u2), .val (.int (0 : Int32)), .val (.int (0 : Int32)), .val (.int (0 : Int32)), .val (.ref ns), .val (.int (0 : Int32)), .val (.int (0 : Int32)), .val (.int (0 : Int32)), .val (.int (0 : Int32)), .val (.ref b222), .unset]) rfl k)
  show Gl _ _ _ _ (T223.setTop (mkF m 119 _ []))
  refine Gl.go ?_ (fun t k => XS.iload X223.here hx rfl (hb hby at_119) rfl k)
  show Gl _ _ _ _ (T223.setTop (mkF m 121 _ [(.int (0 : Int32))]))
  refine Gl.go ?_ (fun t k => XS.ifYes X223.here hx rfl (pc0 := 121) (pc' := 148) rfl (hb hby at_121) rfl ((if0 _ _).trans (teq (by decide : (0 : Int32) = (0 : Int32))).1) (by decide) (by decide) k)
  show Gl _ _ _ _ (T223.setTop (mkF m 148 _ []))
  refine Gl.go ?_ (fun t k => XS.iload X223.here hx rfl (hb hby at_148) rfl k)
  show Gl _ _ _ _ (T223.setTop (mkF m 150 _ [(.int (0 : Int32))]))
  refine Gl.go ?_ (fun t k => XS.ifYes X223.here hx rfl (pc0 := 150) (pc' := 177) rfl (hb hby at_150) rfl ((if0 _ _).trans (teq (by decide : (0 : Int32) = (0 : Int32))).1) (by decide) (by decide) k)
  show Gl _ _ _ _ (T223.setTop (mkF m 177 _ []))
  refine Gl.go ?_ (fun t k => XS.iloadN X223.here hx rfl (hb hby at_177) rfl k)
  show Gl _ _ _ _ (T223.setTop (mkF m 178 _ [(.int u0)]))
  refine Gl.go ?_ (fun t k => XS.iconst X223.here hx rfl (hb hby at_178) k)
  show Gl _ _ _ _ (T223.setTop (mkF m 179 _ [(.int (1 : Int32)), (.int u0)]))
  refine Gl.go ?_ (fun t k => XS.iloadN X223.here hx rfl (hb hby at_179) rfl k)
  show Gl _ _ _ _ (T223.setTop (mkF m 180 _ [(.int (0 : Int32)), (.int (1 : Int32)), (.int u0)]))
  refine Gl.go ?_ (fun t k => XS.ishl X223.here hx rfl (hb hby at_180) rfl k)
  show Gl _ _ _ _ (T223.setTop (mkF m 181 _ [(.int ((1 : Int32) <<< ((0 : Int32) &&& 31))), (.int u0)]))
  refine Gl.go ?_ (fun t k => XS.iconst X223.here hx rfl (hb hby at_181) k)
  show Gl _ _ _ _ (T223.setTop (mkF m 182 _ [(.int (1 : Int32)), (.int ((1 : Int32) <<< ((0 : Int32) &&& 31))), (.int u0)]))
  refine Gl.go ?_ (fun t k => XS.isub X223.here hx rfl (hb hby at_182) rfl k)
  show Gl _ _ _ _ (T223.setTop (mkF m 183 _ [(.int (((1 : Int32) <<< ((0 : Int32) &&& 31)) - (1 : Int32))), (.int u0)]))
  refine Gl.go ?_ (fun t k => XS.iand X223.here hx rfl (hb hby at_183) rfl k)
  show Gl _ _ _ _ (T223.setTop (mkF m 184 #[.val (.int u0), .val (.int u1), .val (.int u2), .val (.int (0 : Int32)), .val (.int (0 : Int32)), .val (.int (0 : Int32)), .val (.ref ns), .val (.int (0 : Int32)), .val (.int (0 : Int32)), .val (.int (0 : Int32)), .val (.int (0 : Int32)), .val (.ref b222), .unset] [(.int (u0 &&& (((1 : Int32) <<< ((0 : Int32) &&& 31)) - (1 : Int32))))]))
  refine Gl.go ?_ (fun t k => XS.istore X223.here hx rfl (hb hby at_184) rfl (l' := #[.val (.int u0), .val (.int u1), .val (.int u2), .val (.int (0 : Int32)), .val (.int (0 : Int32)), .val (.int (0 : Int32)), .val (.ref ns), .val (.int (0 : Int32)), .val (.int (0 : Int32)), .val (.int (0 : Int32)), .val (.int (0 : Int32)), .val (.ref b222), .val (.int (u0 &&& (((1 : Int32) <<< ((0 : Int32) &&& 31)) - (1 : Int32))))]) rfl k)
  show Gl _ _ _ _ (T223.setTop (mkF m 186 _ []))
  refine Gl.go ?_ (fun t k => XS.iload X223.here hx rfl (hb hby at_186) rfl k)
  show Gl _ _ _ _ (T223.setTop (mkF m 188 _ [(.int (0 : Int32))]))
  refine Gl.go ?_ (fun t k => XS.ifYes X223.here hx rfl (pc0 := 188) (pc' := 209) rfl (hb hby at_188) rfl ((if0 _ _).trans (teq (by decide : (0 : Int32) = (0 : Int32))).1) (by decide) (by decide) k)
  show Gl _ _ _ _ (T223.setTop (mkF m 209 _ []))
  refine Gl.go ?_ (fun t k => XS.iload X223.here hx rfl (hb hby at_209) rfl k)
  show Gl _ _ _ _ (T223.setTop (mkF m 211 _ [(.int (0 : Int32))]))
  refine Gl.go ?_ (fun t k => XS.ifYes X223.here hx rfl (pc0 := 211) (pc' := 232) rfl (hb hby at_211) rfl ((if0 _ _).trans (teq (by decide : (0 : Int32) = (0 : Int32))).1) (by decide) (by decide) k)
  show Gl _ _ _ _ (T223.setTop (mkF m 232 _ []))
  refine Gl.go ?_ (fun t k => XS.aload X223.here hx rfl (hb hby at_232) rfl rfl k)
  show Gl _ _ _ _ (T223.setTop (mkF m 234 _ [(.ref b222)]))
  refine Gl.go ?_ (fun t k => XS.iloadN X223.here hx rfl (hb hby at_234) rfl k)
  show Gl _ _ _ _ (T223.setTop (mkF m 235 #[.val (.int u0), .val (.int u1), .val (.int u2), .val (.int (0 : Int32)), .val (.int (0 : Int32)), .val (.int (0 : Int32)), .val (.ref ns), .val (.int (0 : Int32)), .val (.int (0 : Int32)), .val (.int (0 : Int32)), .val (.int (0 : Int32)), .val (.ref b222), .val (.int (u0 &&& (((1 : Int32) <<< ((0 : Int32) &&& 31)) - (1 : Int32))))] [(.int u0), (.ref b222)]))
  obtain ⟨cq224, kq224, q224a, q224b, q224c⟩ := isOf hZ rfl (E_act.ext OLD)
  obtain ⟨_, _, ⟨T224, L224, k224, n224⟩, -, X224, ⟨Lc224, hQ224, l224, y224, z224⟩, st224⟩ := X223.virtualBack hx (y := (⟨"com/example/grantline/grantline/engine/Actions", "impliedMask", "(I)I"⟩ : MethodName)) (z := (⟨"com/example/grantline/grantline/engine/Actions", "impliedMask", "(I)I"⟩ : MethodName)) hown (mvT hZ (hw _ (List.mem_of_getElem? (i := 79) rfl))) (mvT hZ (hw _ (List.mem_of_getElem? (i := 80) rfl))) (notFace_of_selects (args := #[]) (mvT hZ (hw _ (List.mem_of_getElem? (i := 82) rfl)))) (mvT hZ (hw _ (List.mem_of_getElem? (i := 82) rfl))) (mvT hZ (hw _ (List.mem_of_getElem? (i := 81) rfl))) (by decide) (backOf (W := 0) (rm12 l Z a0 hw [] b222 u0 ia223 0 (Int32.ofNat 0) (nth (own_bits 0)) T223.heap (F_im.ext OLD) (IA.ba (hIA.ext OLD) 0 hlx (by decide)) (own_ton (by decide))) hZ (hw _ (List.mem_of_getElem? (i := 83) rfl)) (hw _ (List.mem_of_getElem? (i := 19) rfl)) (by decide) (by decide)) q224a q224c (g := (mkF m 235 #[.val (.int u0), .val (.int u1), .val (.int u2), .val (.int (0 : Int32)), .val (.int (0 : Int32)), .val (.int (0 : Int32)), .val (.ref ns), .val (.int (0 : Int32)), .val (.int (0 : Int32)), .val (.int (0 : Int32)), .val (.int (0 : Int32)), .val (.ref b222), .val (.int (u0 &&& (((1 : Int32) <<< ((0 : Int32) &&& 31)) - (1 : Int32))))] [(.int u0), (.ref b222)])) rfl (by rw [hml]; rfl) (Steps.refl _) (argsL := [(.int u0)]) (rest := []) (lenOf pd_14 rfl) rfl (by show 2 * 0 + _ ≤ _; exact Nat.le_of_eq rfl) (hb hby at_235) (fun _ _ => ⟨rfl, rfl, (by decide : 15 + 0 ≤ _), (by decide : 59 + 0 ≤ _)⟩)
  dsimp only [Pt.U, Pt.locs, Pt.cells, Pt.slots] at X224 l224 y224 z224 st224 hQ224
  rw [l224, y224, z224] at X224
  clear l224 y224 z224
  obtain ⟨rfl, rfl, e224⟩ := hQ224
  replace NF := Fr.app NF (Fr.nil n0)
  refine Gl.tr ?_ st224
  show Gl _ _ _ _ (T224.setTop (mkF m 238 _ [(.int (f_mask u0 0 (nth (own_bits 0))))]))
  refine Gl.go ?_ (fun t k => XS.iload X224.here hx rfl (hb hby at_238) rfl k)
  show Gl _ _ _ _ (T224.setTop (mkF m 240 _ [(.int (u0 &&& (((1 : Int32) <<< ((0 : Int32) &&& 31)) - (1 : Int32)))), (.int (f_mask u0 0 (nth (own_bits 0))))]))
  refine Gl.go ?_ (fun t k => XS.icmpNo X224.here hx rfl (hb hby at_240) rfl (teq ((own_f0 u0 (by decide)))).2 k)
  show Gl _ _ _ _ (T224.setTop (mkF m 243 _ []))
  refine Gl.go ?_ (fun t k => XS.iconst X224.here hx rfl (hb hby at_243) k)
  show Gl _ _ _ _ (T224.setTop (mkF m 244 _ [(.int (1 : Int32))]))
  refine Gl.go ?_ (fun t k => XS.goto X224.here hx rfl (pc0 := 244) (pc' := 248) rfl (hb hby at_244) (by decide) (by decide) k)
  show Gl _ _ _ _ (T224.setTop (mkF m 248 _ [(.int (1 : Int32))]))
  obtain ⟨fs, hr, hrun, hended, -, hW, hpp, hsame⟩ := Stand.leaveW (s := s) (vm₁ := T221.vm) X224 hS (by rw [e224]; exact hk) (v := some (.int (1 : Int32))) (fun h => by rw [Bd.returns] at h; cases h) (BodyLoose.notSynchronized Bd)
  exact Gl.mk ⟨_, _, retN X224 hx (t := .boolean) Bd.returns (by simp) (hb hby at_248) hr, hrun, hended, _, _, rfl, ⟨rfl, NF⟩, ⟨_, rfl⟩, hW, hpp, hsame.mono (by decide) (by decide)⟩
theorem pd_15 : parseMethodDescriptor "(Ljava/lang/String;[Ljava/lang/String;)Lcom/example/grantline/grantline/engine/Actions;" = some ⟨[(.object "java/lang/String"), (.array (.object "java/lang/String"))], some (.object "com/example/grantline/grantline/engine/Actions")⟩ := by decide +kernel
theorem ef_rm0_n (m : MethodId) (x0 : Int32) (x1 : Int32) (x2 : Int32) : entryFrame m #[(.int x0), (.int x1), (.int x2)] maxLocals = mkF m 0 #[.val (.int x0), .val (.int x1), .val (.int x2), .unset, .unset, .unset, .unset, .unset, .unset, .unset, .unset, .unset, .unset] [] := by first | (simp [entryFrame, mkF, argsToLocals, Value.category, maxLocals]; done) | rfl
set_option maxRecDepth 65536 in
set_option maxHeartbeats 40000000 in
theorem rm0_n (l : Launch) (Z : State) (a0 : Array Value) (hw : ∀ d ∈ tables_1, d.before a0 Z = true) (ws : List Jvm.Cond) (u0 : Int32) (u1 : Int32) (u2 : Int32) (cs : Int32) (em el : Addr) (n : Nat) (h0 : Heap) (n0 : Nat) (Z0 : n0 ≤ h0.size) (hn : ((u1 &&& (7 : Int32)) % (6 : Int32)) = (Int32.ofNat n)) (hn1 : 1 ≤ n) (hn5 : n ≤ 5) (hn0 : n0 = h0.size) (hZ0 : Z.heap = h0) (hH9 : Jvm.Lit.constHeld Z "com/example/grantline/grantline/engine/ActionsImpliedMaskPinLaw" 9) (hH11 : Jvm.Lit.constHeld Z "com/example/grantline/grantline/engine/ActionsImpliedMaskPinLaw" 11) (hH13 : Jvm.Lit.constHeld Z "com/example/grantline/grantline/engine/ActionsImpliedMaskPinLaw" 13) (hH15 : Jvm.Lit.constHeld Z "com/example/grantline/grantline/engine/ActionsImpliedMaskPinLaw" 15) (hH17 : Jvm.Lit.constHeld Z "com/example/grantline/grantline/engine/ActionsImpliedMaskPinLaw" 17) (hcw : Jvm.Lit.compactW.before a0 Z = true) (S_CS : Sta Z h0 "java/lang/String" "COMPACT_STRINGS" "Z" (.int cs)) (hcs : ¬ cs = 0) (S_EM : Sta Z h0 "java/util/ImmutableCollections" "EMPTY" "Ljava/lang/Object;" (.ref em)) (S_EL : Sta Z h0 "java/util/ImmutableCollections" "EMPTY_LIST" "Ljava/util/ImmutableCollections$ListN;" (.ref el)) (E_em : Exa Z h0 em "java/lang/Object") :
    MetFree l x (head1 (Jvm.Cond.code x code maxLocals ret :: ws) room_1) (fun aQ U => aQ = #[(.int u0), (.int u1), (.int u2)] ∧ Z.Warmed39 U.vm ∧ U.heap = h0 ∧ IB Z U.vm []) (fun _ _ _ _ _ => True) (fun _ U o U' => ∃ vQ LQ, o = .returned vQ ∧ (vQ = some (.int (1 : Int32)) ∧ Fr n0 LQ) ∧ ReturnedEndW U o U' LQ room_1.cells room_1.slots) := by
  refine MetFree.of_bodySF (plainFor_of_name pn_0) hisR ?_
  intro p e s m args below meth c s₁ Bd hml0 hP hK
  obtain ⟨rfl, hZ, hh, hIB⟩ := hP
  have hx := Bd.exec
  have hby := Bd.bytes
  have hml : c.maxLocals = 13 := hml0
  have hown : s.vm.findClass "com/example/grantline/grantline/engine/ActionsImpliedMaskPinLaw" = some m.cls := findClass_of_methodNamed Bd.named
  have hnm := (name_of_methodNamed Bd.named Bd.method).1
  have X0 : Stand p l e room_1 s m #[(.int u0), (.int u1), (.int u2)] below meth c s₁ [] 0 0 := Stand.of_body Bd
  have e0 : s₁.heap = h0 := by rw [← hh, Bd.state]; rfl
  have NF := Fr.nil n0
  refine Gl.out ?_
  refine Gl.go ?_ (fun t k => castTop (ef_rm0_n m u0 u1 u2) k)
  show Gl _ _ _ _ (s₁.setTop (mkF m 0 _ []))
  refine Gl.go ?_ (fun t k => XS.iloadN X0.here hx rfl (hb hby at_0) rfl k)
  show Gl _ _ _ _ (s₁.setTop (mkF m 1 _ [(.int u1)]))
  refine Gl.go ?_ (fun t k => XS.bipush X0.here hx rfl (hb hby at_1) k)
  show Gl _ _ _ _ (s₁.setTop (mkF m 3 _ [(.int (7 : Int32)), (.int u1)]))
  refine Gl.go ?_ (fun t k => XS.iand X0.here hx rfl (hb hby at_3) rfl k)
  show Gl _ _ _ _ (s₁.setTop (mkF m 4 _ [(.int (u1 &&& (7 : Int32)))]))
  refine Gl.go ?_ (fun t k => XS.bipush X0.here hx rfl (hb hby at_4) k)
  show Gl _ _ _ _ (s₁.setTop (mkF m 6 #[.val (.int u0), .val (.int u1), .val (.int u2), .unset, .unset, .unset, .unset, .unset, .unset, .unset, .unset, .unset, .unset] [(.int (6 : Int32)), (.int (u1 &&& (7 : Int32)))]))
  refine Gl.go ?_ (fun t k => iremM X0 hx rfl (hb hby at_6) rfl (by decide) k)
  show Gl _ _ _ _ (s₁.setTop (mkF m 7 #[.val (.int u0), .val (.int u1), .val (.int u2), .unset, .unset, .unset, .unset, .unset, .unset, .unset, .unset, .unset, .unset] [(.int ((u1 &&& (7 : Int32)) % (6 : Int32)))]))
  rw [hn]
  refine Gl.go ?_ (fun t k => XS.istoreN X0.here hx rfl (hb hby at_7) rfl (l' := #[.val (.int u0), .val (.int u1), .val (.int u2), .val (.int (Int32.ofNat n)), .unset, .unset, .unset, .unset, .unset, .unset, .unset, .unset, .unset]) rfl k)
  show Gl _ _ _ _ (s₁.setTop (mkF m 8 _ []))
  refine Gl.go ?_ (fun t k => XS.iloadN X0.here hx rfl (hb hby at_8) rfl k)
  show Gl _ _ _ _ (s₁.setTop (mkF m 9 _ [(.int (Int32.ofNat n))]))
  refine Gl.go ?_ (fun t k => XS.ifNo X0.here hx rfl (hb hby at_9) rfl ((if0 _ _).trans (tlt (own_pos hn1 hn5)).2.2.2) k)
  show Gl _ _ _ _ (s₁.setTop (mkF m 12 _ []))
  refine Gl.go ?_ (fun t k => XS.iloadN X0.here hx rfl (hb hby at_12) rfl k)
  show Gl _ _ _ _ (s₁.setTop (mkF m 13 _ [(.int u1)]))
  refine Gl.go ?_ (fun t k => XS.iconst X0.here hx rfl (hb hby at_13) k)
  show Gl _ _ _ _ (s₁.setTop (mkF m 14 _ [(.int (3 : Int32)), (.int u1)]))
  refine Gl.go ?_ (fun t k => XS.iushr X0.here hx rfl (hb hby at_14) rfl k)
  show Gl _ _ _ _ (s₁.setTop (mkF m 15 _ [(.int ((u1.toUInt32 >>> ((3 : Int32) &&& 31).toUInt32).toInt32))]))
  refine Gl.go ?_ (fun t k => XS.iconst X0.here hx rfl (hb hby at_15) k)
  show Gl _ _ _ _ (s₁.setTop (mkF m 16 _ [(.int (1 : Int32)), (.int ((u1.toUInt32 >>> ((3 : Int32) &&& 31).toUInt32).toInt32))]))
  refine Gl.go ?_ (fun t k => XS.iand X0.here hx rfl (hb hby at_16) rfl k)
  show Gl _ _ _ _ (s₁.setTop (mkF m 17 _ [(.int (((u1.toUInt32 >>> ((3 : Int32) &&& 31).toUInt32).toInt32) &&& (1 : Int32)))]))
  by_cases hc225 : (((u1.toUInt32 >>> ((3 : Int32) &&& 31).toUInt32).toInt32) &&& (1 : Int32)) = (0 : Int32)
  · refine Gl.go ?_ (fun t k => XS.ifYes X0.here hx rfl (pc0 := 17) (pc' := 24) rfl (hb hby at_17) rfl ((if0 _ _).trans (teq hc225).1) (by decide) (by decide) k)
    show Gl _ _ _ _ (s₁.setTop (mkF m 24 _ []))
    refine Gl.go ?_ (fun t k => XS.iconst X0.here hx rfl (hb hby at_24) k)
    show Gl _ _ _ _ (s₁.setTop (mkF m 25 #[.val (.int u0), .val (.int u1), .val (.int u2), .val (.int (Int32.ofNat n)), .unset, .unset, .unset, .unset, .unset, .unset, .unset, .unset, .unset] [(.int (0 : Int32))]))
    refine Gl.go ?_ (fun t k => XS.istore X0.here hx rfl (hb hby at_25) rfl (l' := #[.val (.int u0), .val (.int u1), .val (.int u2), .val (.int (Int32.ofNat n)), .val (.int (0 : Int32)), .unset, .unset, .unset, .unset, .unset, .unset, .unset, .unset]) rfl k)
    show Gl _ _ _ _ (s₁.setTop (mkF m 27 _ []))
    refine Gl.go ?_ (fun t k => XS.iloadN X0.here hx rfl (hb hby at_27) rfl k)
    show Gl _ _ _ _ (s₁.setTop (mkF m 28 _ [(.int (Int32.ofNat n))]))
    refine Gl.go ?_ (fun t k => XS.ifNo X0.here hx rfl (hb hby at_28) rfl ((if0 _ _).trans (tlt (own_pos hn1 hn5)).2.2.2) k)
    show Gl _ _ _ _ (s₁.setTop (mkF m 31 _ []))
    refine Gl.go ?_ (fun t k => XS.iloadN X0.here hx rfl (hb hby at_31) rfl k)
    show Gl _ _ _ _ (s₁.setTop (mkF m 32 _ [(.int u1)]))
    refine Gl.go ?_ (fun t k => XS.iconst X0.here hx rfl (hb hby at_32) k)
    show Gl _ _ _ _ (s₁.setTop (mkF m 33 _ [(.int (4 : Int32)), (.int u1)]))
    refine Gl.go ?_ (fun t k => XS.iushr X0.here hx rfl (hb hby at_33) rfl k)
    show Gl _ _ _ _ (s₁.setTop (mkF m 34 _ [(.int ((u1.toUInt32 >>> ((4 : Int32) &&& 31).toUInt32).toInt32))]))
    refine Gl.go ?_ (fun t k => XS.iconst X0.here hx rfl (hb hby at_34) k)
    show Gl _ _ _ _ (s₁.setTop (mkF m 35 _ [(.int (1 : Int32)), (.int ((u1.toUInt32 >>> ((4 : Int32) &&& 31).toUInt32).toInt32))]))
    refine Gl.go ?_ (fun t k => XS.iand X0.here hx rfl (hb hby at_35) rfl k)
    show Gl _ _ _ _ (s₁.setTop (mkF m 36 _ [(.int (((u1.toUInt32 >>> ((4 : Int32) &&& 31).toUInt32).toInt32) &&& (1 : Int32)))]))
    by_cases hc226 : (((u1.toUInt32 >>> ((4 : Int32) &&& 31).toUInt32).toInt32) &&& (1 : Int32)) = (0 : Int32)
    · refine Gl.go ?_ (fun t k => XS.ifYes X0.here hx rfl (pc0 := 36) (pc' := 43) rfl (hb hby at_36) rfl ((if0 _ _).trans (teq hc226).1) (by decide) (by decide) k)
      show Gl _ _ _ _ (s₁.setTop (mkF m 43 _ []))
      refine Gl.go ?_ (fun t k => XS.iconst X0.here hx rfl (hb hby at_43) k)
      show Gl _ _ _ _ (s₁.setTop (mkF m 44 #[.val (.int u0), .val (.int u1), .val (.int u2), .val (.int (Int32.ofNat n)), .val (.int (0 : Int32)), .unset, .unset, .unset, .unset, .unset, .unset, .unset, .unset] [(.int (0 : Int32))]))
      refine Gl.go ?_ (fun t k => XS.istore X0.here hx rfl (hb hby at_44) rfl (l' := #[.val (.int u0), .val (.int u1), .val (.int u2), .val (.int (Int32.ofNat n)), .val (.int (0 : Int32)), .val (.int (0 : Int32)), .unset, .unset, .unset, .unset, .unset, .unset, .unset]) rfl k)
      show Gl _ _ _ _ (s₁.setTop (mkF m 46 _ []))
      refine Gl.go ?_ (fun t k => XS.iloadN X0.here hx rfl (hb hby at_46) rfl k)
      show Gl _ _ _ _ (s₁.setTop (mkF m 47 #[.val (.int u0), .val (.int u1), .val (.int u2), .val (.int (Int32.ofNat n)), .val (.int (0 : Int32)), .val (.int (0 : Int32)), .unset, .unset, .unset, .unset, .unset, .unset, .unset] [(.int (Int32.ofNat n))]))
      obtain ⟨_, _, ⟨T227, L227, k227, n227⟩, -, X227, hS, hgr227, ⟨Lc227, hQ227, l227, y227, z227⟩, st227⟩ := callSS X0 hx (y := (⟨"com/example/grantline/grantline/engine/ActionsImpliedMaskPinLaw", "names", "(I)[Ljava/lang/String;"⟩ : MethodName)) hown (mvT hZ (hw _ (List.mem_of_getElem? (i := 0) rfl))) (mvT hZ (hw _ (List.mem_of_getElem? (i := 1) rfl))) (mvT hZ (hw _ (List.mem_of_getElem? (i := 2) rfl))) (mvT hZ (hw _ (List.mem_of_getElem? (i := 3) rfl))) (by decide) (own_back (W := 0) (rm_nms l Z a0 hw [] n hn5 h0 n0 Z0 hn0 hZ0 hH9 hH11 hH13 hH15 hH17 hcw) hZ (hw _ (List.mem_of_getElem? (i := 3) rfl)) (hw _ (List.mem_of_getElem? (i := 2) rfl)) (by decide) (by decide)) (g := (mkF m 47 #[.val (.int u0), .val (.int u1), .val (.int u2), .val (.int (Int32.ofNat n)), .val (.int (0 : Int32)), .val (.int (0 : Int32)), .unset, .unset, .unset, .unset, .unset, .unset, .unset] [(.int (Int32.ofNat n))])) rfl (by rw [hml]; rfl) (argsL := [(.int (Int32.ofNat n))]) (rest := []) (lenOf pd_12 rfl) rfl (by show 2 * 0 + _ ≤ _; exact Nat.le_of_eq rfl) (hb hby at_47) (fun _ hW1 => ⟨rfl, e0, ⟨(by decide : 0 + 11 ≤ _), (by decide : 0 + 45 ≤ _)⟩, own_ibw hIB hW1⟩)
      dsimp only [Pt.U, Pt.locs, Pt.cells, Pt.slots] at X227 l227 y227 z227 st227 hQ227 hS
      rw [l227, y227, z227] at X227
      clear l227 y227 z227 hgr227
      obtain ⟨Nq, ns, A, rfl, EX, hNS, hStr⟩ := hQ227
      replace NF := Fr.app NF Nq
      replace hZ : Z.Warmed39 (s.setVm T227.vm).vm := State.Warmed39.trans (t := s) hZ hS.1
      replace hown : (s.setVm T227.vm).vm.findClass "com/example/grantline/grantline/engine/ActionsImpliedMaskPinLaw" = some m.cls := by rw [show (s.setVm T227.vm).vm = T227.vm from rfl, hS.1.alike.findClass]; exact hown
      replace S_CS := S_CS.ext EX
      replace S_EM := S_EM.ext EX
      replace S_EL := S_EL.ext EX
      replace E_em := E_em.ext EX
      replace Z0 := Nat.le_trans Z0 EX.1
      have hem : 2 ≤ n → (A 1) ≠ em := fun q => Exa.ne (hStr 1 (Nat.lt_of_lt_of_le (by decide) q)).1 E_em (by decide)
      have OLD : Ext T227.heap T227.heap := own_erefl _
      have hk := Nat.le_refl T227.heap.size
      refine Gl.tr ?_ st227
      show Gl _ _ _ _ (T227.setTop (mkF m 50 #[.val (.int u0), .val (.int u1), .val (.int u2), .val (.int (Int32.ofNat n)), .val (.int (0 : Int32)), .val (.int (0 : Int32)), .unset, .unset, .unset, .unset, .unset, .unset, .unset] [(.ref ns)]))
      refine Gl.go ?_ (fun t k => XS.astore X227.here hx rfl (hb hby at_50) rfl rfl (l' := #[.val (.int u0), .val (.int u1), .val (.int u2), .val (.int (Int32.ofNat n)), .val (.int (0 : Int32)), .val (.int (0 : Int32)), .val (.ref ns), .unset, .unset, .unset, .unset, .unset, .unset]) rfl k)
      show Gl _ _ _ _ (T227.setTop (mkF m 52 _ []))
      refine Gl.go ?_ (fun t k => XS.iconst X227.here hx rfl (hb hby at_52) k)
      show Gl _ _ _ _ (T227.setTop (mkF m 53 #[.val (.int u0), .val (.int u1), .val (.int u2), .val (.int (Int32.ofNat n)), .val (.int (0 : Int32)), .val (.int (0 : Int32)), .val (.ref ns), .unset, .unset, .unset, .unset, .unset, .unset] [(.int (0 : Int32))]))
      refine Gl.go ?_ (fun t k => XS.istore X227.here hx rfl (hb hby at_53) rfl (l' := #[.val (.int u0), .val (.int u1), .val (.int u2), .val (.int (Int32.ofNat n)), .val (.int (0 : Int32)), .val (.int (0 : Int32)), .val (.ref ns), .val (.int (0 : Int32)), .unset, .unset, .unset, .unset, .unset]) rfl k)
      show Gl _ _ _ _ (T227.setTop (mkF m 55 _ []))
      refine Gl.go ?_ (fun t k => XS.iconst X227.here hx rfl (hb hby at_55) k)
      show Gl _ _ _ _ (T227.setTop (mkF m 56 #[.val (.int u0), .val (.int u1), .val (.int u2), .val (.int (Int32.ofNat n)), .val (.int (0 : Int32)), .val (.int (0 : Int32)), .val (.ref ns), .val (.int (0 : Int32)), .unset, .unset, .unset, .unset, .unset] [(.int (0 : Int32))]))
      refine Gl.go ?_ (fun t k => XS.istore X227.here hx rfl (hb hby at_56) rfl (l' := #[.val (.int u0), .val (.int u1), .val (.int u2), .val (.int (Int32.ofNat n)), .val (.int (0 : Int32)), .val (.int (0 : Int32)), .val (.ref ns), .val (.int (0 : Int32)), .val (.int (0 : Int32)), .unset, .unset, .unset, .unset]) rfl k)
      show Gl _ _ _ _ (T227.setTop (mkF m 58 _ []))
      refine Gl.go ?_ (fun t k => XS.iconst X227.here hx rfl (hb hby at_58) k)
      show Gl _ _ _ _ (T227.setTop (mkF m 59 #[.val (.int u0), .val (.int u1), .val (.int u2), .val (.int (Int32.ofNat n)), .val (.int (0 : Int32)), .val (.int (0 : Int32)), .val (.ref ns), .val (.int (0 : Int32)), .val (.int (0 : Int32)), .unset, .unset, .unset, .unset] [(.int (0 : Int32))]))
      refine Gl.go ?_ (fun t k => XS.istore X227.here hx rfl (hb hby at_59) rfl (l' := #[.val (.int u0), .val (.int u1), .val (.int u2), .val (.int (Int32.ofNat n)), .val (.int (0 : Int32)), .val (.int (0 : Int32)), .val (.ref ns), .val (.int (0 : Int32)), .val (.int (0 : Int32)), .val (.int (0 : Int32)), .unset, .unset, .unset]) rfl k)
      show Gl _ _ _ _ (T227.setTop (mkF m 61 _ []))
      refine Gl.go ?_ (fun t k => XS.iconst X227.here hx rfl (hb hby at_61) k)
      show Gl _ _ _ _ (T227.setTop (mkF m 62 #[.val (.int u0), .val (.int u1), .val (.int u2), .val (.int (Int32.ofNat n)), .val (.int (0 : Int32)), .val (.int (0 : Int32)), .val (.ref ns), .val (.int (0 : Int32)), .val (.int (0 : Int32)), .val (.int (0 : Int32)), .unset, .unset, .unset] [(.int (0 : Int32))]))
      refine Gl.go ?_ (fun t k => XS.istore X227.here hx rfl (hb hby at_62) rfl (l' := #[.val (.int u0), .val (.int u1), .val (.int u2), .val (.int (Int32.ofNat n)), .val (.int (0 : Int32)), .val (.int (0 : Int32)), .val (.ref ns), .val (.int (0 : Int32)), .val (.int (0 : Int32)), .val (.int (0 : Int32)), .val (.int (0 : Int32)), .unset, .unset]) rfl k)
      show Gl _ _ _ _ (T227.setTop (mkF m 64 _ []))
      refine Gl.go ?_ (fun t k => XS.iloadN X227.here hx rfl (hb hby at_64) rfl k)
      show Gl _ _ _ _ (T227.setTop (mkF m 65 _ [(.int (Int32.ofNat n))]))
      refine Gl.go ?_ (fun t k => XS.ifNo X227.here hx rfl (hb hby at_65) rfl ((if0 _ _).trans (tlt (own_pos hn1 hn5)).2.2.2) k)
      show Gl _ _ _ _ (T227.setTop (mkF m 68 _ []))
      refine Gl.go ?_ (fun t k => XS.iloadN X227.here hx rfl (hb hby at_68) rfl k)
      show Gl _ _ _ _ (T227.setTop (mkF m 69 _ [(.int u2)]))
      refine Gl.go ?_ (fun t k => XS.bipush X227.here hx rfl (hb hby at_69) k)
      show Gl _ _ _ _ (T227.setTop (mkF m 71 _ [(.int (7 : Int32)), (.int u2)]))
      refine Gl.go ?_ (fun t k => XS.iand X227.here hx rfl (hb hby at_71) rfl k)
      show Gl _ _ _ _ (T227.setTop (mkF m 72 _ [(.int (u2 &&& (7 : Int32)))]))
      refine Gl.go ?_ (fun t k => XS.iloadN X227.here hx rfl (hb hby at_72) rfl k)
      show Gl _ _ _ _ (T227.setTop (mkF m 73 #[.val (.int u0), .val (.int u1), .val (.int u2), .val (.int (Int32.ofNat n)), .val (.int (0 : Int32)), .val (.int (0 : Int32)), .val (.ref ns), .val (.int (0 : Int32)), .val (.int (0 : Int32)), .val (.int (0 : Int32)), .val (.int (0 : Int32)), .unset, .unset] [(.int (Int32.ofNat n)), (.int (u2 &&& (7 : Int32)))]))
      refine Gl.go ?_ (fun t k => iremM X227 hx rfl (hb hby at_73) rfl (own_nzn hn1 hn5) k)
      show Gl _ _ _ _ (T227.setTop (mkF m 74 #[.val (.int u0), .val (.int u1), .val (.int u2), .val (.int (Int32.ofNat n)), .val (.int (0 : Int32)), .val (.int (0 : Int32)), .val (.ref ns), .val (.int (0 : Int32)), .val (.int (0 : Int32)), .val (.int (0 : Int32)), .val (.int (0 : Int32)), .unset, .unset] [(.int ((u2 &&& (7 : Int32)) % (Int32.ofNat n)))]))
      obtain ⟨kx1, l_kx1, q_kx1⟩ := own_rem7 u2 (Int32.ofNat n) n hn1 (own_ton hn5)
      rw [q_kx1]
      refine Gl.go ?_ (fun t k => XS.istore X227.here hx rfl (hb hby at_74) rfl (l' := #[.val (.int u0), .val (.int u1), .val (.int u2), .val (.int (Int32.ofNat n)), .val (.int (0 : Int32)), .val (.int (0 : Int32)), .val (.ref ns), .val (.int (Int32.ofNat kx1)), .val (.int (0 : Int32)), .val (.int (0 : Int32)), .val (.int (0 : Int32)), .unset, .unset]) rfl k)
      show Gl _ _ _ _ (T227.setTop (mkF m 76 _ []))
      refine Gl.go ?_ (fun t k => XS.iloadN X227.here hx rfl (hb hby at_76) rfl k)
      show Gl _ _ _ _ (T227.setTop (mkF m 77 _ [(.int u2)]))
      refine Gl.go ?_ (fun t k => XS.iconst X227.here hx rfl (hb hby at_77) k)
      show Gl _ _ _ _ (T227.setTop (mkF m 78 _ [(.int (3 : Int32)), (.int u2)]))
      refine Gl.go ?_ (fun t k => XS.iushr X227.here hx rfl (hb hby at_78) rfl k)
      show Gl _ _ _ _ (T227.setTop (mkF m 79 _ [(.int ((u2.toUInt32 >>> ((3 : Int32) &&& 31).toUInt32).toInt32))]))
      refine Gl.go ?_ (fun t k => XS.bipush X227.here hx rfl (hb hby at_79) k)
      show Gl _ _ _ _ (T227.setTop (mkF m 81 _ [(.int (7 : Int32)), (.int ((u2.toUInt32 >>> ((3 : Int32) &&& 31).toUInt32).toInt32))]))
      refine Gl.go ?_ (fun t k => XS.iand X227.here hx rfl (hb hby at_81) rfl k)
      show Gl _ _ _ _ (T227.setTop (mkF m 82 _ [(.int (((u2.toUInt32 >>> ((3 : Int32) &&& 31).toUInt32).toInt32) &&& (7 : Int32)))]))
      refine Gl.go ?_ (fun t k => XS.iloadN X227.here hx rfl (hb hby at_82) rfl k)
      show Gl _ _ _ _ (T227.setTop (mkF m 83 #[.val (.int u0), .val (.int u1), .val (.int u2), .val (.int (Int32.ofNat n)), .val (.int (0 : Int32)), .val (.int (0 : Int32)), .val (.ref ns), .val (.int (Int32.ofNat kx1)), .val (.int (0 : Int32)), .val (.int (0 : Int32)), .val (.int (0 : Int32)), .unset, .unset] [(.int (Int32.ofNat n)), (.int (((u2.toUInt32 >>> ((3 : Int32) &&& 31).toUInt32).toInt32) &&& (7 : Int32)))]))
      refine Gl.go ?_ (fun t k => iremM X227 hx rfl (hb hby at_83) rfl (own_nzn hn1 hn5) k)
      show Gl _ _ _ _ (T227.setTop (mkF m 84 #[.val (.int u0), .val (.int u1), .val (.int u2), .val (.int (Int32.ofNat n)), .val (.int (0 : Int32)), .val (.int (0 : Int32)), .val (.ref ns), .val (.int (Int32.ofNat kx1)), .val (.int (0 : Int32)), .val (.int (0 : Int32)), .val (.int (0 : Int32)), .unset, .unset] [(.int ((((u2.toUInt32 >>> ((3 : Int32) &&& 31).toUInt32).toInt32) &&& (7 : Int32)) % (Int32.ofNat n)))]))
      obtain ⟨ky1, l_ky1, q_ky1⟩ := own_rem7 ((u2.toUInt32 >>> ((3 : Int32) &&& 31).toUInt32).toInt32) (Int32.ofNat n) n hn1 (own_ton hn5)
      rw [q_ky1]
      refine Gl.go ?_ (fun t k => XS.istore X227.here hx rfl (hb hby at_84) rfl (l' := #[.val (.int u0), .val (.int u1), .val (.int u2), .val (.int (Int32.ofNat n)), .val (.int (0 : Int32)), .val (.int (0 : Int32)), .val (.ref ns), .val (.int (Int32.ofNat kx1)), .val (.int (Int32.ofNat ky1)), .val (.int (0 : Int32)), .val (.int (0 : Int32)), .unset, .unset]) rfl k)
      show Gl _ _ _ _ (T227.setTop (mkF m 86 _ []))
      refine Gl.go ?_ (fun t k => XS.iloadN X227.here hx rfl (hb hby at_86) rfl k)
      show Gl _ _ _ _ (T227.setTop (mkF m 87 _ [(.int u2)]))
      refine Gl.go ?_ (fun t k => XS.bipush X227.here hx rfl (hb hby at_87) k)
      show Gl _ _ _ _ (T227.setTop (mkF m 89 _ [(.int (6 : Int32)), (.int u2)]))
      refine Gl.go ?_ (fun t k => XS.iushr X227.here hx rfl (hb hby at_89) rfl k)
      show Gl _ _ _ _ (T227.setTop (mkF m 90 _ [(.int ((u2.toUInt32 >>> ((6 : Int32) &&& 31).toUInt32).toInt32))]))
      refine Gl.go ?_ (fun t k => XS.bipush X227.here hx rfl (hb hby at_90) k)
      show Gl _ _ _ _ (T227.setTop (mkF m 92 _ [(.int (7 : Int32)), (.int ((u2.toUInt32 >>> ((6 : Int32) &&& 31).toUInt32).toInt32))]))
      refine Gl.go ?_ (fun t k => XS.iand X227.here hx rfl (hb hby at_92) rfl k)
      show Gl _ _ _ _ (T227.setTop (mkF m 93 _ [(.int (((u2.toUInt32 >>> ((6 : Int32) &&& 31).toUInt32).toInt32) &&& (7 : Int32)))]))
      refine Gl.go ?_ (fun t k => XS.iloadN X227.here hx rfl (hb hby at_93) rfl k)
      show Gl _ _ _ _ (T227.setTop (mkF m 94 #[.val (.int u0), .val (.int u1), .val (.int u2), .val (.int (Int32.ofNat n)), .val (.int (0 : Int32)), .val (.int (0 : Int32)), .val (.ref ns), .val (.int (Int32.ofNat kx1)), .val (.int (Int32.ofNat ky1)), .val (.int (0 : Int32)), .val (.int (0 : Int32)), .unset, .unset] [(.int (Int32.ofNat n)), (.int (((u2.toUInt32 >>> ((6 : Int32) &&& 31).toUInt32).toInt32) &&& (7 : Int32)))]))
      refine Gl.go ?_ (fun t k => iremM X227 hx rfl (hb hby at_94) rfl (own_nzn hn1 hn5) k)
      show Gl _ _ _ _ (T227.setTop (mkF m 95 #[.val (.int u0), .val (.int u1), .val (.int u2), .val (.int (Int32.ofNat n)), .val (.int (0 : Int32)), .val (.int (0 : Int32)), .val (.ref ns), .val (.int (Int32.ofNat kx1)), .val (.int (Int32.ofNat ky1)), .val (.int (0 : Int32)), .val (.int (0 : Int32)), .unset, .unset] [(.int ((((u2.toUInt32 >>> ((6 : Int32) &&& 31).toUInt32).toInt32) &&& (7 : Int32)) % (Int32.ofNat n)))]))
      obtain ⟨kx2, l_kx2, q_kx2⟩ := own_rem7 ((u2.toUInt32 >>> ((6 : Int32) &&& 31).toUInt32).toInt32) (Int32.ofNat n) n hn1 (own_ton hn5)
      rw [q_kx2]
      refine Gl.go ?_ (fun t k => XS.istore X227.here hx rfl (hb hby at_95) rfl (l' := #[.val (.int u0), .val (.int u1), .val (.int u2), .val (.int (Int32.ofNat n)), .val (.int (0 : Int32)), .val (.int (0 : Int32)), .val (.ref ns), .val (.int (Int32.ofNat kx1)), .val (.int (Int32.ofNat ky1)), .val (.int (Int32.ofNat kx2)), .val (.int (0 : Int32)), .unset, .unset]) rfl k)
      show Gl _ _ _ _ (T227.setTop (mkF m 97 _ []))
      refine Gl.go ?_ (fun t k => XS.iloadN X227.here hx rfl (hb hby at_97) rfl k)
      show Gl _ _ _ _ (T227.setTop (mkF m 98 _ [(.int u2)]))
      refine Gl.go ?_ (fun t k => XS.bipush X227.here hx rfl (hb hby at_98) k)
      show Gl _ _ _ _ (T227.setTop (mkF m 100 _ [(.int (9 : Int32)), (.int u2)]))
      refine Gl.go ?_ (fun t k => XS.iushr X227.here hx rfl (hb hby at_100) rfl k)
      show Gl _ _ _ _ (T227.setTop (mkF m 101 _ [(.int ((u2.toUInt32 >>> ((9 : Int32) &&& 31).toUInt32).toInt32))]))
      refine Gl.go ?_ (fun t k => XS.bipush X227.here hx rfl (hb hby at_101) k)
      show Gl _ _ _ _ (T227.setTop (mkF m 103 _ [(.int (7 : Int32)), (.int ((u2.toUInt32 >>> ((9 : Int32) &&& 31).toUInt32).toInt32))]))
      refine Gl.go ?_ (fun t k => XS.iand X227.here hx rfl (hb hby at_103) rfl k)
      show Gl _ _ _ _ (T227.setTop (mkF m 104 _ [(.int (((u2.toUInt32 >>> ((9 : Int32) &&& 31).toUInt32).toInt32) &&& (7 : Int32)))]))
      refine Gl.go ?_ (fun t k => XS.iloadN X227.here hx rfl (hb hby at_104) rfl k)
      show Gl _ _ _ _ (T227.setTop (mkF m 105 #[.val (.int u0), .val (.int u1), .val (.int u2), .val (.int (Int32.ofNat n)), .val (.int (0 : Int32)), .val (.int (0 : Int32)), .val (.ref ns), .val (.int (Int32.ofNat kx1)), .val (.int (Int32.ofNat ky1)), .val (.int (Int32.ofNat kx2)), .val (.int (0 : Int32)), .unset, .unset] [(.int (Int32.ofNat n)), (.int (((u2.toUInt32 >>> ((9 : Int32) &&& 31).toUInt32).toInt32) &&& (7 : Int32)))]))
      refine Gl.go ?_ (fun t k => iremM X227 hx rfl (hb hby at_105) rfl (own_nzn hn1 hn5) k)
      show Gl _ _ _ _ (T227.setTop (mkF m 106 #[.val (.int u0), .val (.int u1), .val (.int u2), .val (.int (Int32.ofNat n)), .val (.int (0 : Int32)), .val (.int (0 : Int32)), .val (.ref ns), .val (.int (Int32.ofNat kx1)), .val (.int (Int32.ofNat ky1)), .val (.int (Int32.ofNat kx2)), .val (.int (0 : Int32)), .unset, .unset] [(.int ((((u2.toUInt32 >>> ((9 : Int32) &&& 31).toUInt32).toInt32) &&& (7 : Int32)) % (Int32.ofNat n)))]))
      obtain ⟨ky2, l_ky2, q_ky2⟩ := own_rem7 ((u2.toUInt32 >>> ((9 : Int32) &&& 31).toUInt32).toInt32) (Int32.ofNat n) n hn1 (own_ton hn5)
      rw [q_ky2]
      refine Gl.go ?_ (fun t k => XS.istore X227.here hx rfl (hb hby at_106) rfl (l' := #[.val (.int u0), .val (.int u1), .val (.int u2), .val (.int (Int32.ofNat n)), .val (.int (0 : Int32)), .val (.int (0 : Int32)), .val (.ref ns), .val (.int (Int32.ofNat kx1)), .val (.int (Int32.ofNat ky1)), .val (.int (Int32.ofNat kx2)), .val (.int (Int32.ofNat ky2)), .unset, .unset]) rfl k)
      show Gl _ _ _ _ (T227.setTop (mkF m 108 #[.val (.int u0), .val (.int u1), .val (.int u2), .val (.int (Int32.ofNat n)), .val (.int (0 : Int32)), .val (.int (0 : Int32)), .val (.ref ns), .val (.int (Int32.ofNat kx1)), .val (.int (Int32.ofNat ky1)), .val (.int (Int32.ofNat kx2)), .val (.int (Int32.ofNat ky2)), .unset, .unset] []))
      obtain ⟨T228, h228, X228, e228, E228, A228, D228, -, st228⟩ := newO X227 hx hZ hown (hw _ (List.mem_of_getElem? (i := 17) rfl)) (hw _ (List.mem_of_getElem? (i := 18) rfl)) (hw _ (List.mem_of_getElem? (i := 19) rfl)) rfl (g := (mkF m 108 #[.val (.int u0), .val (.int u1), .val (.int u2), .val (.int (Int32.ofNat n)), .val (.int (0 : Int32)), .val (.int (0 : Int32)), .val (.ref ns), .val (.int (Int32.ofNat kx1)), .val (.int (Int32.ofNat ky1)), .val (.int (Int32.ofNat kx2)), .val (.int (Int32.ofNat ky2)), .unset, .unset] [])) rfl (hb hby at_108) (by decide) (by decide)
      obtain ⟨b228, g228⟩ : ∃ z, z = T227.heap.size := ⟨_, rfl⟩
      rw [← g228] at A228 D228 st228
      have g_b228 : n0 ≤ b228 := Nat.le_trans Z0 (Nat.le_of_eq g228.symm)
      have sz_b228 : (T227.heap).size ≤ b228 := Nat.le_trans OLD.1 (Nat.le_of_eq g228.symm)
      have hi_b228 := Nat.le_trans hk (Nat.le_of_eq g228.symm)
      replace OLD := own_oext OLD E228
      replace hk := Nat.le_trans hk E228.1
      replace Z0 := Nat.le_trans Z0 E228.1
      have E_b228 := A228
      have F_names_b228 : Fld Z h228 b228 "com/example/grantline/grantline/engine/Actions" "names" "Ljava/util/List;" .null := D228 (Or.inr (hw _ (List.mem_of_getElem? (i := 76) rfl))) (ty := (.object "java/util/List")) (by decide)
      have F_implied_b228 : Fld Z h228 b228 "com/example/grantline/grantline/engine/Actions" "implied" "[I" .null := D228 (Or.inr (hw _ (List.mem_of_getElem? (i := 78) rfl))) (ty := (.array .int)) (by decide)
      refine Gl.go ?_ st228
      show Gl _ _ _ _ (T228.setTop (mkF m 111 _ [(.ref b228)]))
      refine Gl.go ?_ (fun t k => XS.dup X228.here hx rfl (hb hby at_111) rfl rfl k)
      show Gl _ _ _ _ (T228.setTop (mkF m 112 _ [(.ref b228), (.ref b228)]))
      refine Gl.go ?_ (fun t k => XS.aload X228.here hx rfl (hb hby at_112) rfl rfl k)
      show Gl _ _ _ _ (T228.setTop (mkF m 114 #[.val (.int u0), .val (.int u1), .val (.int u2), .val (.int (Int32.ofNat n)), .val (.int (0 : Int32)), .val (.int (0 : Int32)), .val (.ref ns), .val (.int (Int32.ofNat kx1)), .val (.int (Int32.ofNat ky1)), .val (.int (Int32.ofNat kx2)), .val (.int (Int32.ofNat ky2)), .unset, .unset] [(.ref ns), (.ref b228), (.ref b228)]))
      obtain ⟨_, _, ⟨T229, L229, k229, n229⟩, -, X229, ⟨Lc229, hQ229, l229, y229, z229⟩, st229⟩ := X228.specialBack hx (y := (⟨"com/example/grantline/grantline/engine/Actions", "<init>", "([Ljava/lang/String;)V"⟩ : MethodName)) rfl hown (mvT hZ (hw _ (List.mem_of_getElem? (i := 20) rfl))) (mvT hZ (hw _ (List.mem_of_getElem? (i := 21) rfl))) (mvT hZ (hw _ (List.mem_of_getElem? (i := 22) rfl))) (by decide) (backOf (W := 1) (rm_ai1 l Z a0 hw [] n hn5 b228 ns A em el _ _ h228 n0 Z0 E_b228 g_b228 F_names_b228 F_implied_b228 (Nat.ne_of_lt (Nat.lt_of_lt_of_le hNS.lt sz_b228)) (hNS.ext OLD) (fun i q => ((hStr i q).1).ext OLD) (S_EM.ext OLD) (S_EL.ext OLD)) hZ (hw _ (List.mem_of_getElem? (i := 22) rfl)) (hw _ (List.mem_of_getElem? (i := 19) rfl)) (by decide) (by decide)) (g := (mkF m 114 #[.val (.int u0), .val (.int u1), .val (.int u2), .val (.int (Int32.ofNat n)), .val (.int (0 : Int32)), .val (.int (0 : Int32)), .val (.ref ns), .val (.int (Int32.ofNat kx1)), .val (.int (Int32.ofNat ky1)), .val (.int (Int32.ofNat kx2)), .val (.int (Int32.ofNat ky2)), .unset, .unset] [(.ref ns), (.ref b228), (.ref b228)])) rfl (by rw [hml]; rfl) (Steps.refl _) (a := b228) (argsL := [(.ref ns)]) (rest := [(.ref b228)]) (lenOf pd_13 rfl) rfl (by show 2 * 0 + _ ≤ _; exact Nat.le_of_eq rfl) (hb hby at_114) (fun _ _ => ⟨rfl, e228, (by decide : 12 + 3 ≤ _), (by decide : 47 + 12 ≤ _)⟩)
      dsimp only [Pt.U, Pt.locs, Pt.cells, Pt.slots] at X229 l229 y229 z229 st229 hQ229
      rw [l229, y229, z229] at X229
      clear l229 y229 z229
      obtain ⟨N229q, rfl, K229, ec229, ls229, ia229, fn229, fi229, lk229, iA229⟩ := hQ229
      replace NF := Fr.app NF N229q
      replace OLD := own_okeep OLD K229 (fun y hy => by cases List.mem_singleton.mp hy; exact sz_b228)
      replace hk := Nat.le_trans hk K229.1
      replace Z0 := Nat.le_trans Z0 K229.1
      replace S_CS := S_CS.ext OLD
      replace S_EM := S_EM.ext OLD
      replace S_EL := S_EL.ext OLD
      replace hNS := hNS.ext OLD
      replace hStr : ∀ i, i < n → StrIs Z T229.heap (A i) (own_ch i) := fun i q => (hStr i q).ext OLD
      replace OLD : Ext T229.heap T229.heap := own_erefl _
      have E_act := ec229
      have F_nm := fn229
      have F_im := fi229
      have hLK := lk229
      have hIA := iA229
      have hlx : (own_bits n).length = n := own_bl hn5
      refine Gl.tr ?_ st229
      show Gl _ _ _ _ (T229.setTop (mkF m 117 #[.val (.int u0), .val (.int u1), .val (.int u2), .val (.int (Int32.ofNat n)), .val (.int (0 : Int32)), .val (.int (0 : Int32)), .val (.ref ns), .val (.int (Int32.ofNat kx1)), .val (.int (Int32.ofNat ky1)), .val (.int (Int32.ofNat kx2)), .val (.int (Int32.ofNat ky2)), .unset, .unset] [(.ref b228)]))
      refine Gl.go ?_ (fun t k => XS.astore X229.here hx rfl (hb hby at_117) rfl rfl (l' := #[.val (.int u0), .val (.int u1), .val (.int u2), .val (.int (Int32.ofNat n)), .val (.int (0 : Int32)), .val (.int (0 : Int32)), .val (.ref ns), .val (.int (Int32.ofNat kx1)), .val (.int (Int32.ofNat ky1)), .val (.int (Int32.ofNat kx2)), .val (.int (Int32.ofNat ky2)), .val (.ref b228), .unset]) rfl k)
      show Gl _ _ _ _ (T229.setTop (mkF m 119 _ []))
      refine Gl.go ?_ (fun t k => XS.iload X229.here hx rfl (hb hby at_119) rfl k)
      show Gl _ _ _ _ (T229.setTop (mkF m 121 _ [(.int (0 : Int32))]))
      refine Gl.go ?_ (fun t k => XS.ifYes X229.here hx rfl (pc0 := 121) (pc' := 148) rfl (hb hby at_121) rfl ((if0 _ _).trans (teq (by decide : (0 : Int32) = (0 : Int32))).1) (by decide) (by decide) k)
      show Gl _ _ _ _ (T229.setTop (mkF m 148 _ []))
      refine Gl.go ?_ (fun t k => XS.iload X229.here hx rfl (hb hby at_148) rfl k)
      show Gl _ _ _ _ (T229.setTop (mkF m 150 _ [(.int (0 : Int32))]))
      refine Gl.go ?_ (fun t k => XS.ifYes X229.here hx rfl (pc0 := 150) (pc' := 177) rfl (hb hby at_150) rfl ((if0 _ _).trans (teq (by decide : (0 : Int32) = (0 : Int32))).1) (by decide) (by decide) k)
      show Gl _ _ _ _ (T229.setTop (mkF m 177 _ []))
      refine Gl.go ?_ (fun t k => XS.iloadN X229.here hx rfl (hb hby at_177) rfl k)
      show Gl _ _ _ _ (T229.setTop (mkF m 178 _ [(.int u0)]))
      refine Gl.go ?_ (fun t k => XS.iconst X229.here hx rfl (hb hby at_178) k)
      show Gl _ _ _ _ (T229.setTop (mkF m 179 _ [(.int (1 : Int32)), (.int u0)]))
      refine Gl.go ?_ (fun t k => XS.iloadN X229.here hx rfl (hb hby at_179) rfl k)
      show Gl _ _ _ _ (T229.setTop (mkF m 180 _ [(.int (Int32.ofNat n)), (.int (1 : Int32)), (.int u0)]))
      refine Gl.go ?_ (fun t k => XS.ishl X229.here hx rfl (hb hby at_180) rfl k)
      show Gl _ _ _ _ (T229.setTop (mkF m 181 _ [(.int ((1 : Int32) <<< ((Int32.ofNat n) &&& 31))), (.int u0)]))
      refine Gl.go ?_ (fun t k => XS.iconst X229.here hx rfl (hb hby at_181) k)
      show Gl _ _ _ _ (T229.setTop (mkF m 182 _ [(.int (1 : Int32)), (.int ((1 : Int32) <<< ((Int32.ofNat n) &&& 31))), (.int u0)]))
      refine Gl.go ?_ (fun t k => XS.isub X229.here hx rfl (hb hby at_182) rfl k)
      show Gl _ _ _ _ (T229.setTop (mkF m 183 _ [(.int (((1 : Int32) <<< ((Int32.ofNat n) &&& 31)) - (1 : Int32))), (.int u0)]))
      refine Gl.go ?_ (fun t k => XS.iand X229.here hx rfl (hb hby at_183) rfl k)
      show Gl _ _ _ _ (T229.setTop (mkF m 184 #[.val (.int u0), .val (.int u1), .val (.int u2), .val (.int (Int32.ofNat n)), .val (.int (0 : Int32)), .val (.int (0 : Int32)), .val (.ref ns), .val (.int (Int32.ofNat kx1)), .val (.int (Int32.ofNat ky1)), .val (.int (Int32.ofNat kx2)), .val (.int (Int32.ofNat ky2)), .val (.ref b228), .unset] [(.int (u0 &&& (((1 : Int32) <<< ((Int32.ofNat n) &&& 31)) - (1 : Int32))))]))
      refine Gl.go ?_ (fun t k => XS.istore X229.here hx rfl (hb hby at_184) rfl (l' := #[.val (.int u0), .val (.int u1), .val (.int u2), .val (.int (Int32.ofNat n)), .val (.int (0 : Int32)), .val (.int (0 : Int32)), .val (.ref ns), .val (.int (Int32.ofNat kx1)), .val (.int (Int32.ofNat ky1)), .val (.int (Int32.ofNat kx2)), .val (.int (Int32.ofNat ky2)), .val (.ref b228), .val (.int (u0 &&& (((1 : Int32) <<< ((Int32.ofNat n) &&& 31)) - (1 : Int32))))]) rfl k)
      show Gl _ _ _ _ (T229.setTop (mkF m 186 _ []))
      refine Gl.go ?_ (fun t k => XS.iload X229.here hx rfl (hb hby at_186) rfl k)
      show Gl _ _ _ _ (T229.setTop (mkF m 188 _ [(.int (0 : Int32))]))
      refine Gl.go ?_ (fun t k => XS.ifYes X229.here hx rfl (pc0 := 188) (pc' := 209) rfl (hb hby at_188) rfl ((if0 _ _).trans (teq (by decide : (0 : Int32) = (0 : Int32))).1) (by decide) (by decide) k)
      show Gl _ _ _ _ (T229.setTop (mkF m 209 _ []))
      refine Gl.go ?_ (fun t k => XS.iload X229.here hx rfl (hb hby at_209) rfl k)
      show Gl _ _ _ _ (T229.setTop (mkF m 211 _ [(.int (0 : Int32))]))
      refine Gl.go ?_ (fun t k => XS.ifYes X229.here hx rfl (pc0 := 211) (pc' := 232) rfl (hb hby at_211) rfl ((if0 _ _).trans (teq (by decide : (0 : Int32) = (0 : Int32))).1) (by decide) (by decide) k)
      show Gl _ _ _ _ (T229.setTop (mkF m 232 _ []))
      refine Gl.go ?_ (fun t k => XS.aload X229.here hx rfl (hb hby at_232) rfl rfl k)
      show Gl _ _ _ _ (T229.setTop (mkF m 234 _ [(.ref b228)]))
      refine Gl.go ?_ (fun t k => XS.iloadN X229.here hx rfl (hb hby at_234) rfl k)
      show Gl _ _ _ _ (T229.setTop (mkF m 235 #[.val (.int u0), .val (.int u1), .val (.int u2), .val (.int (Int32.ofNat n)), .val (.int (0 : Int32)), .val (.int (0 : Int32)), .val (.ref ns), .val (.int (Int32.ofNat kx1)), .val (.int (Int32.ofNat ky1)), .val (.int (Int32.ofNat kx2)), .val (.int (Int32.ofNat ky2)), .val (.ref b228), .val (.int (u0 &&& (((1 : Int32) <<< ((Int32.ofNat n) &&& 31)) - (1 : Int32))))] [(.int u0), (.ref b228)]))
      obtain ⟨cq230, kq230, q230a, q230b, q230c⟩ := isOf hZ rfl (E_act.ext OLD)
      obtain ⟨_, _, ⟨T230, L230, k230, n230⟩, -, X230, ⟨Lc230, hQ230, l230, y230, z230⟩, st230⟩ := X229.virtualBack hx (y := (⟨"com/example/grantline/grantline/engine/Actions", "impliedMask", "(I)I"⟩ : MethodName)) (z := (⟨"com/example/grantline/grantline/engine/Actions", "impliedMask", "(I)I"⟩ : MethodName)) hown (mvT hZ (hw _ (List.mem_of_getElem? (i := 79) rfl))) (mvT hZ (hw _ (List.mem_of_getElem? (i := 80) rfl))) (notFace_of_selects (args := #[]) (mvT hZ (hw _ (List.mem_of_getElem? (i := 82) rfl)))) (mvT hZ (hw _ (List.mem_of_getElem? (i := 82) rfl))) (mvT hZ (hw _ (List.mem_of_getElem? (i := 81) rfl))) (by decide) (backOf (W := 0) (rm12 l Z a0 hw [] b228 u0 ia229 n (Int32.ofNat n) (nth (own_bits n)) T229.heap (F_im.ext OLD) (IA.ba (hIA.ext OLD) n hlx hn5) (own_ton hn5)) hZ (hw _ (List.mem_of_getElem? (i := 83) rfl)) (hw _ (List.mem_of_getElem? (i := 19) rfl)) (by decide) (by decide)) q230a q230c (g := (mkF m 235 #[.val (.int u0), .val (.int u1), .val (.int u2), .val (.int (Int32.ofNat n)), .val (.int (0 : Int32)), .val (.int (0 : Int32)), .val (.ref ns), .val (.int (Int32.ofNat kx1)), .val (.int (Int32.ofNat ky1)), .val (.int (Int32.ofNat kx2)), .val (.int (Int32.ofNat ky2)), .val (.ref b228), .val (.int (u0 &&& (((1 : Int32) <<< ((Int32.ofNat n) &&& 31)) - (1 : Int32))))] [(.int u0), (.ref b228)])) rfl (by rw [hml]; rfl) (Steps.refl _) (argsL := [(.int u0)]) (rest := []) (lenOf pd_14 rfl) rfl (by show 2 * 0 + _ ≤ _; exact Nat.le_of_eq rfl) (hb hby at_235) (fun _ _ => ⟨rfl, rfl, (by decide : 15 + 0 ≤ _), (by decide : 59 + 0 ≤ _)⟩)
      dsimp only [Pt.U, Pt.locs, Pt.cells, Pt.slots] at X230 l230 y230 z230 st230 hQ230
      rw [l230, y230, z230] at X230
      clear l230 y230 z230
      obtain ⟨rfl, rfl, e230⟩ := hQ230
      replace NF := Fr.app NF (Fr.nil n0)
      refine Gl.tr ?_ st230
      show Gl _ _ _ _ (T230.setTop (mkF m 238 _ [(.int (f_mask u0 n (nth (own_bits n))))]))
      refine Gl.go ?_ (fun t k => XS.iload X230.here hx rfl (hb hby at_238) rfl k)
      show Gl _ _ _ _ (T230.setTop (mkF m 240 _ [(.int (u0 &&& (((1 : Int32) <<< ((Int32.ofNat n) &&& 31)) - (1 : Int32)))), (.int (f_mask u0 n (nth (own_bits n))))]))
      refine Gl.go ?_ (fun t k => XS.icmpNo X230.here hx rfl (hb hby at_240) rfl (teq ((own_f0 u0 hn5))).2 k)
      show Gl _ _ _ _ (T230.setTop (mkF m 243 _ []))
      refine Gl.go ?_ (fun t k => XS.iconst X230.here hx rfl (hb hby at_243) k)
      show Gl _ _ _ _ (T230.setTop (mkF m 244 _ [(.int (1 : Int32))]))
      refine Gl.go ?_ (fun t k => XS.goto X230.here hx rfl (pc0 := 244) (pc' := 248) rfl (hb hby at_244) (by decide) (by decide) k)
      show Gl _ _ _ _ (T230.setTop (mkF m 248 _ [(.int (1 : Int32))]))
      obtain ⟨fs, hr, hrun, hended, -, hW, hpp, hsame⟩ := Stand.leaveW (s := s) (vm₁ := T227.vm) X230 hS (by rw [e230]; exact hk) (v := some (.int (1 : Int32))) (fun h => by rw [Bd.returns] at h; cases h) (BodyLoose.notSynchronized Bd)
      exact Gl.mk ⟨_, _, retN X230 hx (t := .boolean) Bd.returns (by simp) (hb hby at_248) hr, hrun, hended, _, _, rfl, ⟨rfl, NF⟩, ⟨_, rfl⟩, hW, hpp, hsame.mono (by decide) (by decide)⟩
    · refine Gl.go ?_ (fun t k => XS.ifNo X0.here hx rfl (hb hby at_36) rfl ((if0 _ _).trans (feq hc226).1) k)
      show Gl _ _ _ _ (s₁.setTop (mkF m 39 _ []))
      refine Gl.go ?_ (fun t k => XS.iconst X0.here hx rfl (hb hby at_39) k)
      show Gl _ _ _ _ (s₁.setTop (mkF m 40 _ [(.int (1 : Int32))]))
      refine Gl.go ?_ (fun t k => XS.goto X0.here hx rfl (pc0 := 40) (pc' := 44) rfl (hb hby at_40) (by decide) (by decide) k)
      show Gl _ _ _ _ (s₁.setTop (mkF m 44 #[.val (.int u0), .val (.int u1), .val (.int u2), .val (.int (Int32.ofNat n)), .val (.int (0 : Int32)), .unset, .unset, .unset, .unset, .unset, .unset, .unset, .unset] [(.int (1 : Int32))]))
      refine Gl.go ?_ (fun t k => XS.istore X0.here hx rfl (hb hby at_44) rfl (l' := #[.val (.int u0), .val (.int u1), .val (.int u2), .val (.int (Int32.ofNat n)), .val (.int (0 : Int32)), .val (.int (1 : Int32)), .unset, .unset, .unset, .unset, .unset, .unset, .unset]) rfl k)
      show Gl _ _ _ _ (s₁.setTop (mkF m 46 _ []))
      refine Gl.go ?_ (fun t k => XS.iloadN X0.here hx rfl (hb hby at_46) rfl k)
      show Gl _ _ _ _ (s₁.setTop (mkF m 47 #[.val (.int u0), .val (.int u1), .val (.int u2), .val (.int (Int32.ofNat n)), .val (.int (0 : Int32)), .val (.int (1 : Int32)), .unset, .unset, .unset, .unset, .unset, .unset, .unset] [(.int (Int32.ofNat n))]))
      obtain ⟨_, _, ⟨T231, L231, k231, n231⟩, -, X231, hS, hgr231, ⟨Lc231, hQ231, l231, y231, z231⟩, st231⟩ := callSS X0 hx (y := (⟨"com/example/grantline/grantline/engine/ActionsImpliedMaskPinLaw", "names", "(I)[Ljava/lang/String;"⟩ : MethodName)) hown (mvT hZ (hw _ (List.mem_of_getElem? (i := 0) rfl))) (mvT hZ (hw _ (List.mem_of_getElem? (i := 1) rfl))) (mvT hZ (hw _ (List.mem_of_getElem? (i := 2) rfl))) (mvT hZ (hw _ (List.mem_of_getElem? (i := 3) rfl))) (by decide) (own_back (W := 0) (rm_nms l Z a0 hw [] n hn5 h0 n0 Z0 hn0 hZ0 hH9 hH11 hH13 hH15 hH17 hcw) hZ (hw _ (List.mem_of_getElem? (i := 3) rfl)) (hw _ (List.mem_of_getElem? (i := 2) rfl)) (by decide) (by decide)) (g := (mkF m 47 #[.val (.int u0), .val (.int u1), .val (.int u2), .val (.int (Int32.ofNat n)), .val (.int (0 : Int32)), .val (.int (1 : Int32)), .unset, .unset, .unset, .unset, .unset, .unset, .unset] [(.int (Int32.ofNat n))])) rfl (by rw [hml]; rfl) (argsL := [(.int (Int32.ofNat n))]) (rest := []) (lenOf pd_12 rfl) rfl (by show 2 * 0 + _ ≤ _; exact Nat.le_of_eq rfl) (hb hby at_47) (fun _ hW1 => ⟨rfl, e0, ⟨(by decide : 0 + 11 ≤ _), (by decide : 0 + 45 ≤ _)⟩, own_ibw hIB hW1⟩)
      dsimp only [Pt.U, Pt.locs, Pt.cells, Pt.slots] at X231 l231 y231 z231 st231 hQ231 hS
      rw [l231, y231, z231] at X231
      clear l231 y231 z231 hgr231
      obtain ⟨Nq, ns, A, rfl, EX, hNS, hStr⟩ := hQ231
      replace NF := Fr.app NF Nq
      replace hZ : Z.Warmed39 (s.setVm T231.vm).vm := State.Warmed39.trans (t := s) hZ hS.1
      replace hown : (s.setVm T231.vm).vm.findClass "com/example/grantline/grantline/engine/ActionsImpliedMaskPinLaw" = some m.cls := by rw [show (s.setVm T231.vm).vm = T231.vm from rfl, hS.1.alike.findClass]; exact hown
      replace S_CS := S_CS.ext EX
      replace S_EM := S_EM.ext EX
      replace S_EL := S_EL.ext EX
      replace E_em := E_em.ext EX
      replace Z0 := Nat.le_trans Z0 EX.1
      have hem : 2 ≤ n → (A 1) ≠ em := fun q => Exa.ne (hStr 1 (Nat.lt_of_lt_of_le (by decide) q)).1 E_em (by decide)
      have OLD : Ext T231.heap T231.heap := own_erefl _
      have hk := Nat.le_refl T231.heap.size
      refine Gl.tr ?_ st231
      show Gl _ _ _ _ (T231.setTop (mkF m 50 #[.val (.int u0), .val (.int u1), .val (.int u2), .val (.int (Int32.ofNat n)), .val (.int (0 : Int32)), .val (.int (1 : Int32)), .unset, .unset, .unset, .unset, .unset, .unset, .unset] [(.ref ns)]))
      refine Gl.go ?_ (fun t k => XS.astore X231.here hx rfl (hb hby at_50) rfl rfl (l' := #[.val (.int u0), .val (.int u1), .val (.int u2), .val (.int (Int32.ofNat n)), .val (.int (0 : Int32)), .val (.int (1 : Int32)), .val (.ref ns), .unset, .unset, .unset, .unset, .unset, .unset]) rfl k)
      show Gl _ _ _ _ (T231.setTop (mkF m 52 _ []))
      refine Gl.go ?_ (fun t k => XS.iconst X231.here hx rfl (hb hby at_52) k)
      show Gl _ _ _ _ (T231.setTop (mkF m 53 #[.val (.int u0), .val (.int u1), .val (.int u2), .val (.int (Int32.ofNat n)), .val (.int (0 : Int32)), .val (.int (1 : Int32)), .val (.ref ns), .unset, .unset, .unset, .unset, .unset, .unset] [(.int (0 : Int32))]))
      refine Gl.go ?_ (fun t k => XS.istore X231.here hx rfl (hb hby at_53) rfl (l' := #[.val (.int u0), .val (.int u1), .val (.int u2), .val (.int (Int32.ofNat n)), .val (.int (0 : Int32)), .val (.int (1 : Int32)), .val (.ref ns), .val (.int (0 : Int32)), .unset, .unset, .unset, .unset, .unset]) rfl k)
      show Gl _ _ _ _ (T231.setTop (mkF m 55 _ []))
      refine Gl.go ?_ (fun t k => XS.iconst X231.here hx rfl (hb hby at_55) k)
      show Gl _ _ _ _ (T231.setTop (mkF m 56 #[.val (.int u0), .val (.int u1), .val (.int u2), .val (.int (Int32.ofNat n)), .val (.int (0 : Int32)), .val (.int (1 : Int32)), .val (.ref ns), .val (.int (0 : Int32)), .unset, .unset, .unset, .unset, .unset] [(.int (0 : Int32))]))
      refine Gl.go ?_ (fun t k => XS.istore X231.here hx rfl (hb hby at_56) rfl (l' := #[.val (.int u0), .val (.int u1), .val (.int u2), .val (.int (Int32.ofNat n)), .val (.int (0 : Int32)), .val (.int (1 : Int32)), .val (.ref ns), .val (.int (0 : Int32)), .val (.int (0 : Int32)), .unset, .unset, .unset, .unset]) rfl k)
      show Gl _ _ _ _ (T231.setTop (mkF m 58 _ []))
      refine Gl.go ?_ (fun t k => XS.iconst X231.here hx rfl (hb hby at_58) k)
      show Gl _ _ _ _ (T231.setTop (mkF m 59 #[.val (.int u0), .val (.int u1), .val (.int u2), .val (.int (Int32.ofNat n)), .val (.int (0 : Int32)), .val (.int (1 : Int32)), .val (.ref ns), .val (.int (0 : Int32)), .val (.int (0 : Int32)), .unset, .unset, .unset, .unset] [(.int (0 : Int32))]))
      refine Gl.go ?_ (fun t k => XS.istore X231.here hx rfl (hb hby at_59) rfl (l' := #[.val (.int u0), .val (.int u1), .val (.int u2), .val (.int (Int32.ofNat n)), .val (.int (0 : Int32)), .val (.int (1 : Int32)), .val (.ref ns), .val (.int (0 : Int32)), .val (.int (0 : Int32)), .val (.int (0 : Int32)), .unset, .unset, .unset]) rfl k)
      show Gl _ _ _ _ (T231.setTop (mkF m 61 _ []))
      refine Gl.go ?_ (fun t k => XS.iconst X231.here hx rfl (hb hby at_61) k)
      show Gl _ _ _ _ (T231.setTop (mkF m 62 #[.val (.int u0), .val (.int u1), .val (.int u2), .val (.int (Int32.ofNat n)), .val (.int (0 : Int32)), .val (.int (1 : Int32)), .val (.ref ns), .val (.int (0 : Int32)), .val (.int (0 : Int32)), .val (.int (0 : Int32)), .unset, .unset, .unset] [(.int (0 : Int32))]))
      refine Gl.go ?_ (fun t k => XS.istore X231.here hx rfl (hb hby at_62) rfl (l' := #[.val (.int u0), .val (.int u1), .val (.int u2), .val (.int (Int32.ofNat n)), .val (.int (0 : Int32)), .val (.int (1 : Int32)), .val (.ref ns), .val (.int (0 : Int32)), .val (.int (0 : Int32)), .val (.int (0 : Int32)), .val (.int (0 : Int32)), .unset, .unset]) rfl k)
      show Gl _ _ _ _ (T231.setTop (mkF m 64 _ []))
      refine Gl.go ?_ (fun t k => XS.iloadN X231.here hx rfl (hb hby at_64) rfl k)
      show Gl _ _ _ _ (T231.setTop (mkF m 65 _ [(.int (Int32.ofNat n))]))
      refine Gl.go ?_ (fun t k => XS.ifNo X231.here hx rfl (hb hby at_65) rfl ((if0 _ _).trans (tlt (own_pos hn1 hn5)).2.2.2) k)
      show Gl _ _ _ _ (T231.setTop (mkF m 68 _ []))
      refine Gl.go ?_ (fun t k => XS.iloadN X231.here hx rfl (hb hby at_68) rfl k)
      show Gl _ _ _ _ (T231.setTop (mkF m 69 _ [(.int u2)]))
      refine Gl.go ?_ (fun t k => XS.bipush X231.here hx rfl (hb hby at_69) k)
      show Gl _ _ _ _ (T231.setTop (mkF m 71 _ [(.int (7 : Int32)), (.int u2)]))
      refine Gl.go ?_ (fun t k => XS.iand X231.here hx rfl (hb hby at_71) rfl k)
      show Gl _ _ _ _ (T231.setTop (mkF m 72 _ [(.int (u2 &&& (7 : Int32)))]))
      refine Gl.go ?_ (fun t k => XS.iloadN X231.here hx rfl (hb hby at_72) rfl k)
      show Gl _ _ _ _ (T231.setTop (mkF m 73 #[.val (.int u0), .val (.int u1), .val (.int u2), .val (.int (Int32.ofNat n)), .val (.int (0 : Int32)), .val (.int (1 : Int32)), .val (.ref ns), .val (.int (0 : Int32)), .val (.int (0 : Int32)), .val (.int (0 : Int32)), .val (.int (0 : Int32)), .unset, .unset] [(.int (Int32.ofNat n)), (.int (u2 &&& (7 : Int32)))]))
      refine Gl.go ?_ (fun t k => iremM X231 hx rfl (hb hby at_73) rfl (own_nzn hn1 hn5) k)
      show Gl _ _ _ _ (T231.setTop (mkF m 74 #[.val (.int u0), .val (.int u1), .val (.int u2), .val (.int (Int32.ofNat n)), .val (.int (0 : Int32)), .val (.int (1 : Int32)), .val (.ref ns), .val (.int (0 : Int32)), .val (.int (0 : Int32)), .val (.int (0 : Int32)), .val (.int (0 : Int32)), .unset, .unset] [(.int ((u2 &&& (7 : Int32)) % (Int32.ofNat n)))]))
      obtain ⟨kx1, l_kx1, q_kx1⟩ := own_rem7 u2 (Int32.ofNat n) n hn1 (own_ton hn5)
      rw [q_kx1]
      refine Gl.go ?_ (fun t k => XS.istore X231.here hx rfl (hb hby at_74) rfl (l' := #[.val (.int u0), .val (.int u1), .val (.int u2), .val (.int (Int32.ofNat n)), .val (.int (0 : Int32)), .val (.int (1 : Int32)), .val (.ref ns), .val (.int (Int32.ofNat kx1)), .val (.int (0 : Int32)), .val (.int (0 : Int32)), .val (.int (0 : Int32)), .unset, .unset]) rfl k)
      show Gl _ _ _ _ (T231.setTop (mkF m 76 _ []))
      refine Gl.go ?_ (fun t k => XS.iloadN X231.here hx rfl (hb hby at_76) rfl k)
      show Gl _ _ _ _ (T231.setTop (mkF m 77 _ [(.int u2)]))
      refine Gl.go ?_ (fun t k => XS.iconst X231.here hx rfl (hb hby at_77) k)
      show Gl _ _ _ _ (T231.setTop (mkF m 78 _ [(.int (3 : Int32)), (.int u2)]))
      refine Gl.go ?_ (fun t k => XS.iushr X231.here hx rfl (hb hby at_78) rfl k)
      show Gl _ _ _ _ (T231.setTop (mkF m 79 _ [(.int ((u2.toUInt32 >>> ((3 : Int32) &&& 31).toUInt32).toInt32))]))
      refine Gl.go ?_ (fun t k => XS.bipush X231.here hx rfl (hb hby at_79) k)
      show Gl _ _ _ _ (T231.setTop (mkF m 81 _ [(.int (7 : Int32)), (.int ((u2.toUInt32 >>> ((3 : Int32) &&& 31).toUInt32).toInt32))]))
      refine Gl.go ?_ (fun t k => XS.iand X231.here hx rfl (hb hby at_81) rfl k)
      show Gl _ _ _ _ (T231.setTop (mkF m 82 _ [(.int (((u2.toUInt32 >>> ((3 : Int32) &&& 31).toUInt32).toInt32) &&& (7 : Int32)))]))
      refine Gl.go ?_ (fun t k => XS.iloadN X231.here hx rfl (hb hby at_82) rfl k)
      show Gl _ _ _ _ (T231.setTop (mkF m 83 #[.val (.int u0), .val (.int u1), .val (.int u2), .val (.int (Int32.ofNat n)), .val (.int (0 : Int32)), .val (.int (1 : Int32)), .val (.ref ns), .val (.int (Int32.ofNat kx1)), .val (.int (0 : Int32)), .val (.int (0 : Int32)), .val (.int (0 : Int32)), .unset, .unset] [(.int (Int32.ofNat n)), (.int (((u2.toUInt32 >>> ((3 : Int32) &&& 31).toUInt32).toInt32) &&& (7 : Int32)))]))
      refine Gl.go ?_ (fun t k => iremM X231 hx rfl (hb hby at_83) rfl (own_nzn hn1 hn5) k)
      show Gl _ _ _ _ (T231.setTop (mkF m 84 #[.val (.int u0), .val (.int u1), .val (.int u2), .val (.int (Int32.ofNat n)), .val (.int (0 : Int32)), .val (.int (1 : Int32)), .val (.ref ns), .val (.int (Int32.ofNat kx1)), .val (.int (0 : Int32)), .val (.int (0 : Int32)), .val (.int (0 : Int32)), .unset, .unset] [(.int ((((u2.toUInt32 >>> ((3 : Int32) &&& 31).toUInt32).toInt32) &&& (7 : Int32)) % (Int32.ofNat n)))]))
      obtain ⟨ky1, l_ky1, q_ky1⟩ := own_rem7 ((u2.toUInt32 >>> ((3 : Int32) &&& 31).toUInt32).toInt32) (Int32.ofNat n) n hn1 (own_ton hn5)
      rw [q_ky1]
      refine Gl.go ?_ (fun t k => XS.istore X231.here hx rfl (hb hby at_84) rfl (l' := #[.val (.int u0), .val (.int u1), .val (.int u2), .val (.int (Int32.ofNat n)), .val (.int (0 : Int32)), .val (.int (1 : Int32)), .val (.ref ns), .val (.int (Int32.ofNat kx1)), .val (.int (Int32.ofNat ky1)), .val (.int (0 : Int32)), .val (.int (0 : Int32)), .unset, .unset]) rfl k)
      show Gl _ _ _ _ (T231.setTop (mkF m 86 _ []))
      refine Gl.go ?_ (fun t k => XS.iloadN X231.here hx rfl (hb hby at_86) rfl k)
      show Gl _ _ _ _ (T231.setTop (mkF m 87 _ [(.int u2)]))
      refine Gl.go ?_ (fun t k => XS.bipush X231.here hx rfl (hb hby at_87) k)
      show Gl _ _ _ _ (T231.setTop (mkF m 89 _ [(.int (6 : Int32)), (.int u2)]))
      refine Gl.go ?_ (fun t k => XS.iushr X231.here hx rfl (hb hby at_89) rfl k)
      show Gl _ _ _ _ (T231.setTop (mkF m 90 _ [(.int ((u2.toUInt32 >>> ((6 : Int32) &&& 31).toUInt32).toInt32))]))
      refine Gl.go ?_ (fun t k => XS.bipush X231.here hx rfl (hb hby at_90) k)
      show Gl _ _ _ _ (T231.setTop (mkF m 92 _ [(.int (7 : Int32)), (.int ((u2.toUInt32 >>> ((6 : Int32) &&& 31).toUInt32).toInt32))]))
      refine Gl.go ?_ (fun t k => XS.iand X231.here hx rfl (hb hby at_92) rfl k)
      show Gl _ _ _ _ (T231.setTop (mkF m 93 _ [(.int (((u2.toUInt32 >>> ((6 : Int32) &&& 31).toUInt32).toInt32) &&& (7 : Int32)))]))
      refine Gl.go ?_ (fun t k => XS.iloadN X231.here hx rfl (hb hby at_93) rfl k)
      show Gl _ _ _ _ (T231.setTop (mkF m 94 #[.val (.int u0), .val (.int u1), .val (.int u2), .val (.int (Int32.ofNat n)), .val (.int (0 : Int32)), .val (.int (1 : Int32)), .val (.ref ns), .val (.int (Int32.ofNat kx1)), .val (.int (Int32.ofNat ky1)), .val (.int (0 : Int32)), .val (.int (0 : Int32)), .unset, .unset] [(.int (Int32.ofNat n)), (.int (((u2.toUInt32 >>> ((6 : Int32) &&& 31).toUInt32).toInt32) &&& (7 : Int32)))]))
      refine Gl.go ?_ (fun t k => iremM X231 hx rfl (hb hby at_94) rfl (own_nzn hn1 hn5) k)
      show Gl _ _ _ _ (T231.setTop (mkF m 95 #[.val (.int u0), .val (.int u1), .val (.int u2), .val (.int (Int32.ofNat n)), .val (.int (0 : Int32)), .val (.int (1 : Int32)), .val (.ref ns), .val (.int (Int32.ofNat kx1)), .val (.int (Int32.ofNat ky1)), .val (.int (0 : Int32)), .val (.int (0 : Int32)), .unset, .unset] [(.int ((((u2.toUInt32 >>> ((6 : Int32) &&& 31).toUInt32).toInt32) &&& (7 : Int32)) % (Int32.ofNat n)))]))
      obtain ⟨kx2, l_kx2, q_kx2⟩ := own_rem7 ((u2.toUInt32 >>> ((6 : Int32) &&& 31).toUInt32).toInt32) (Int32.ofNat n) n hn1 (own_ton hn5)
      rw [q_kx2]
      refine Gl.go ?_ (fun t k => XS.istore X231.here hx rfl (hb hby at_95) rfl (l' := #[.val (.int u0), .val (.int u1), .val (.int u2), .val (.int (Int32.ofNat n)), .val (.int (0 : Int32)), .val (.int (1 : Int32)), .val (.ref ns), .val (.int (Int32.ofNat kx1)), .val (.int (Int32.ofNat ky1)), .val (.int (Int32.ofNat kx2)), .val (.int (0 : Int32)), .unset, .unset]) rfl k)
      show Gl _ _ _ _ (T231.setTop (mkF m 97 _ []))
      refine Gl.go ?_ (fun t k => XS.iloadN X231.here hx rfl (hb hby at_97) rfl k)
      show Gl _ _ _ _ (T231.setTop (mkF m 98 _ [(.int u2)]))
      refine Gl.go ?_ (fun t k => XS.bipush X231.here hx rfl (hb hby at_98) k)
      show Gl _ _ _ _ (T231.setTop (mkF m 100 _ [(.int (9 : Int32)), (.int u2)]))
      refine Gl.go ?_ (fun t k => XS.iushr X231.here hx rfl (hb hby at_100) rfl k)
      show Gl _ _ _ _ (T231.setTop (mkF m 101 _ [(.int ((u2.toUInt32 >>> ((9 : Int32) &&& 31).toUInt32).toInt32))]))
      refine Gl.go ?_ (fun t k => XS.bipush X231.here hx rfl (hb hby at_101) k)
      show Gl _ _ _ _ (T231.setTop (mkF m 103 _ [(.int (7 : Int32)), (.int ((u2.toUInt32 >>> ((9 : Int32) &&& 31).toUInt32).toInt32))]))
      refine Gl.go ?_ (fun t k => XS.iand X231.here hx rfl (hb hby at_103) rfl k)
      show Gl _ _ _ _ (T231.setTop (mkF m 104 _ [(.int (((u2.toUInt32 >>> ((9 : Int32) &&& 31).toUInt32).toInt32) &&& (7 : Int32)))]))
      refine Gl.go ?_ (fun t k => XS.iloadN X231.here hx rfl (hb hby at_104) rfl k)
      show Gl _ _ _ _ (T231.setTop (mkF m 105 #[.val (.int u0), .val (.int u1), .val (.int u2), .val (.int (Int32.ofNat n)), .val (.int (0 : Int32)), .val (.int (1 : Int32)), .val (.ref ns), .val (.int (Int32.ofNat kx1)), .val (.int (Int32.ofNat ky1)), .val (.int (Int32.ofNat kx2)), .val (.int (0 : Int32)), .unset, .unset] [(.int (Int32.ofNat n)), (.int (((u2.toUInt32 >>> ((9 : Int32) &&& 31).toUInt32).toInt32) &&& (7 : Int32)))]))
      refine Gl.go ?_ (fun t k => iremM X231 hx rfl (hb hby at_105) rfl (own_nzn hn1 hn5) k)
      show Gl _ _ _ _ (T231.setTop (mkF m 106 #[.val (.int u0), .val (.int u1), .val (.int u2), .val (.int (Int32.ofNat n)), .val (.int (0 : Int32)), .val (.int (1 : Int32)), .val (.ref ns), .val (.int (Int32.ofNat kx1)), .val (.int (Int32.ofNat ky1)), .val (.int (Int32.ofNat kx2)), .val (.int (0 : Int32)), .unset, .unset] [(.int ((((u2.toUInt32 >>> ((9 : Int32) &&& 31).toUInt32).toInt32) &&& (7 : Int32)) % (Int32.ofNat n)))]))
      obtain ⟨ky2, l_ky2, q_ky2⟩ := own_rem7 ((u2.toUInt32 >>> ((9 : Int32) &&& 31).toUInt32).toInt32) (Int32.ofNat n) n hn1 (own_ton hn5)
      rw [q_ky2]
      refine Gl.go ?_ (fun t k => XS.istore X231.here hx rfl (hb hby at_106) rfl (l' := #[.val (.int u0), .val (.int u1), .val (.int u2), .val (.int (Int32.ofNat n)), .val (.int (0 : Int32)), .val (.int (1 : Int32)), .val (.ref ns), .val (.int (Int32.ofNat kx1)), .val (.int (Int32.ofNat ky1)), .val (.int (Int32.ofNat kx2)), .val (.int (Int32.ofNat ky2)), .unset, .unset]) rfl k)
      show Gl _ _ _ _ (T231.setTop (mkF m 108 #[.val (.int u0), .val (.int u1), .val (.int u2), .val (.int (Int32.ofNat n)), .val (.int (0 : Int32)), .val (.int (1 : Int32)), .val (.ref ns), .val (.int (Int32.ofNat kx1)), .val (.int (Int32.ofNat ky1)), .val (.int (Int32.ofNat kx2)), .val (.int (Int32.ofNat ky2)), .unset, .unset] []))
      obtain ⟨T232, h232, X232, e232, E232, A232, D232, -, st232⟩ := newO X231 hx hZ hown (hw _ (List.mem_of_getElem? (i := 17) rfl)) (hw _ (List.mem_of_getElem? (i := 18) rfl)) (hw _ (List.mem_of_getElem? (i := 19) rfl)) rfl (g := (mkF m 108 #[.val (.int u0), .val (.int u1), .val (.int u2), .val (.int (Int32.ofNat n)), .val (.int (0 : Int32)), .val (.int (1 : Int32)), .val (.ref ns), .val (.int (Int32.ofNat kx1)), .val (.int (Int32.ofNat ky1)), .val (.int (Int32.ofNat kx2)), .val (.int (Int32.ofNat ky2)), .unset, .unset] [])) rfl (hb hby at_108) (by decide) (by decide)
      obtain ⟨b232, g232⟩ : ∃ z, z = T231.heap.size := ⟨_, rfl⟩
      rw [← g232] at A232 D232 st232
      have g_b232 : n0 ≤ b232 := Nat.le_trans Z0 (Nat.le_of_eq g232.symm)
      have sz_b232 : (T231.heap).size ≤ b232 := Nat.le_trans OLD.1 (Nat.le_of_eq g232.symm)
      have hi_b232 := Nat.le_trans hk (Nat.le_of_eq g232.symm)
      replace OLD := own_oext OLD E232
      replace hk := Nat.le_trans hk E232.1
      replace Z0 := Nat.le_trans Z0 E232.1
      have E_b232 := A232
      have F_names_b232 : Fld Z h232 b232 "com/example/grantline/grantline/engine/Actions" "names" "Ljava/util/List;" .null := D232 (Or.inr (hw _ (List.mem_of_getElem? (i := 76) rfl))) (ty := (.object "java/util/List")) (by decide)
      have F_implied_b232 : Fld Z h232 b232 "com/example/grantline/grantline/engine/Actions" "implied" "[I" .null := D232 (Or.inr (hw _ (List.mem_of_getElem? (i := 78) rfl))) (ty := (.array .int)) (by decide)
      refine Gl.go ?_ st232
      show Gl _ _ _ _ (T232.setTop (mkF m 111 _ [(.ref b232)]))
      refine Gl.go ?_ (fun t k => XS.dup X232.here hx rfl (hb hby at_111) rfl rfl k)
      show Gl _ _ _ _ (T232.setTop (mkF m 112 _ [(.ref b232), (.ref b232)]))
      refine Gl.go ?_ (fun t k => XS.aload X232.here hx rfl (hb hby at_112) rfl rfl k)
      show Gl _ _ _ _ (T232.setTop (mkF m 114 #[.val (.int u0), .val (.int u1), .val (.int u2), .val (.int (Int32.ofNat n)), .val (.int (0 : Int32)), .val (.int (1 : Int32)), .val (.ref ns), .val (.int (Int32.ofNat kx1)), .val (.int (Int32.ofNat ky1)), .val (.int (Int32.ofNat kx2)), .val (.int (Int32.ofNat ky2)), .unset, .unset] [(.ref ns), (.ref b232), (.ref b232)]))
      obtain ⟨_, _, ⟨T233, L233, k233, n233⟩, -, X233, ⟨Lc233, hQ233, l233, y233, z233⟩, st233⟩ := X232.specialBack hx (y := (⟨"com/example/grantline/grantline/engine/Actions", "<init>", "([Ljava/lang/String;)V"⟩ : MethodName)) rfl hown (mvT hZ (hw _ (List.mem_of_getElem? (i := 20) rfl))) (mvT hZ (hw _ (List.mem_of_getElem? (i := 21) rfl))) (mvT hZ (hw _ (List.mem_of_getElem? (i := 22) rfl))) (by decide) (backOf (W := 1) (rm_ai1 l Z a0 hw [] n hn5 b232 ns A em el _ _ h232 n0 Z0 E_b232 g_b232 F_names_b232 F_implied_b232 (Nat.ne_of_lt (Nat.lt_of_lt_of_le hNS.lt sz_b232)) (hNS.ext OLD) (fun i q => ((hStr i q).1).ext OLD) (S_EM.ext OLD) (S_EL.ext OLD)) hZ (hw _ (List.mem_of_getElem? (i := 22) rfl)) (hw _ (List.mem_of_getElem? (i := 19) rfl)) (by decide) (by decide)) (g := (mkF m 114 #[.val (.int u0), .val (.int u1), .val (.int u2), .val (.int (Int32.ofNat n)), .val (.int (0 : Int32)), .val (.int (1 : Int32)), .val (.ref ns), .val (.int (Int32.ofNat kx1)), .val (.int (Int32.ofNat ky1)), .val (.int (Int32.ofNat kx2)), .val (.int (Int32.ofNat ky2)), .unset, .unset] [(.ref ns), (.ref b232), (.ref b232)])) rfl (by rw [hml]; rfl) (Steps.refl _) (a := b232) (argsL := [(.ref ns)]) (rest := [(.ref b232)]) (lenOf pd_13 rfl) rfl (by show 2 * 0 + _ ≤ _; exact Nat.le_of_eq rfl) (hb hby at_114) (fun _ _ => ⟨rfl, e232, (by decide : 12 + 3 ≤ _), (by decide : 47 + 12 ≤ _)⟩)
      dsimp only [Pt.U, Pt.locs, Pt.cells, Pt.slots] at X233 l233 y233 z233 st233 hQ233
      rw [l233, y233, z233] at X233
      clear l233 y233 z233
      obtain ⟨N233q, rfl, K233, ec233, ls233, ia233, fn233, fi233, lk233, iA233⟩ := hQ233
      replace NF := Fr.app NF N233q
      replace OLD := own_okeep OLD K233 (fun y hy => by cases List.mem_singleton.mp hy; exact sz_b232)
      replace hk := Nat.le_trans hk K233.1
      replace Z0 := Nat.le_trans Z0 K233.1
      replace S_CS := S_CS.ext OLD
      replace S_EM := S_EM.ext OLD
      replace S_EL := S_EL.ext OLD
      replace hNS := hNS.ext OLD
      replace hStr : ∀ i, i < n → StrIs Z T233.heap (A i) (own_ch i) := fun i q => (hStr i q).ext OLD
      replace OLD : Ext T233.heap T233.heap := own_erefl _
      have E_act := ec233
      have F_nm := fn233
      have F_im := fi233
      have hLK := lk233
      have hIA := iA233
      have hlx : (own_bits n).length = n := own_bl hn5
      refine Gl.tr ?_ st233
      show Gl _ _ _ _ (T233.setTop (mkF m 117 #[.val (.int u0), .val (.int u1), .val (.int u2), .val (.int (Int32.ofNat n)), .val (.int (0 : Int32)), .val (.int (1 : Int32)), .val (.ref ns), .val (.int (Int32.ofNat kx1)), .val (.int (Int32.ofNat ky1)), .val (.int (Int32.ofNat kx2)), .val (.int (Int32.ofNat ky2)), .unset, .unset] [(.ref b232)]))
      refine Gl.go ?_ (fun t k => XS.astore X233.here hx rfl (hb hby at_117) rfl rfl (l' := #[.val (.int u0), .val (.int u1), .val (.int u2), .val (.int (Int32.ofNat n)), .val (.int (0 : Int32)), .val (.int (1 : Int32)), .val (.ref ns), .val (.int (Int32.ofNat kx1)), .val (.int (Int32.ofNat ky1)), .val (.int (Int32.ofNat kx2)), .val (.int (Int32.ofNat ky2)), .val (.ref b232), .unset]) rfl k)
      show Gl _ _ _ _ (T233.setTop (mkF m 119 _ []))
      refine Gl.go ?_ (fun t k => XS.iload X233.here hx rfl (hb hby at_119) rfl k)
      show Gl _ _ _ _ (T233.setTop (mkF m 121 _ [(.int (0 : Int32))]))
      refine Gl.go ?_ (fun t k => XS.ifYes X233.here hx rfl (pc0 := 121) (pc' := 148) rfl (hb hby at_121) rfl ((if0 _ _).trans (teq (by decide : (0 : Int32) = (0 : Int32))).1) (by decide) (by decide) k)
      show Gl _ _ _ _ (T233.setTop (mkF m 148 _ []))
      refine Gl.go ?_ (fun t k => XS.iload X233.here hx rfl (hb hby at_148) rfl k)
      show Gl _ _ _ _ (T233.setTop (mkF m 150 _ [(.int (1 : Int32))]))
      refine Gl.go ?_ (fun t k => XS.ifNo X233.here hx rfl (hb hby at_150) rfl ((if0 _ _).trans (feq (by decide : ¬ ((1 : Int32) = (0 : Int32)))).1) k)
      show Gl _ _ _ _ (T233.setTop (mkF m 153 _ []))
      refine Gl.go ?_ (fun t k => XS.aload X233.here hx rfl (hb hby at_153) rfl rfl k)
      show Gl _ _ _ _ (T233.setTop (mkF m 155 _ [(.ref b232)]))
      refine Gl.go ?_ (fun t k => XS.aload X233.here hx rfl (hb hby at_155) rfl rfl k)
      show Gl _ _ _ _ (T233.setTop (mkF m 157 _ [(.ref ns), (.ref b232)]))
      refine Gl.go ?_ (fun t k => XS.iload X233.here hx rfl (hb hby at_157) rfl k)
      show Gl _ _ _ _ (T233.setTop (mkF m 159 #[.val (.int u0), .val (.int u1), .val (.int u2), .val (.int (Int32.ofNat n)), .val (.int (0 : Int32)), .val (.int (1 : Int32)), .val (.ref ns), .val (.int (Int32.ofNat kx1)), .val (.int (Int32.ofNat ky1)), .val (.int (Int32.ofNat kx2)), .val (.int (Int32.ofNat ky2)), .val (.ref b232), .unset] [(.int (Int32.ofNat kx2)), (.ref ns), (.ref b232)]))
      have rd := RA.rd (hNS.ext OLD) rfl X233 hx hZ rfl (own_lo l_kx2 hn5) (own_hi l_kx2 hn5) (g := (mkF m 159 #[.val (.int u0), .val (.int u1), .val (.int u2), .val (.int (Int32.ofNat n)), .val (.int (0 : Int32)), .val (.int (1 : Int32)), .val (.ref ns), .val (.int (Int32.ofNat kx1)), .val (.int (Int32.ofNat ky1)), .val (.int (Int32.ofNat kx2)), .val (.int (Int32.ofNat ky2)), .val (.ref b232), .unset] [(.int (Int32.ofNat kx2)), (.ref ns), (.ref b232)])) rfl rfl (hb hby at_159)
      rw [own_tn (Nat.le_trans (Nat.le_of_lt l_kx2) hn5)] at rd
      refine Gl.go ?_ rd
      clear rd
      show Gl _ _ _ _ (T233.setTop (mkF m 160 _ [(.ref (A kx2)), (.ref b232)]))
      refine Gl.go ?_ (fun t k => XS.iconst X233.here hx rfl (hb hby at_160) k)
      show Gl _ _ _ _ (T233.setTop (mkF m 161 #[.val (.int u0), .val (.int u1), .val (.int u2), .val (.int (Int32.ofNat n)), .val (.int (0 : Int32)), .val (.int (1 : Int32)), .val (.ref ns), .val (.int (Int32.ofNat kx1)), .val (.int (Int32.ofNat ky1)), .val (.int (Int32.ofNat kx2)), .val (.int (Int32.ofNat ky2)), .val (.ref b232), .unset] [(.int (1 : Int32)), (.ref (A kx2)), (.ref b232)]))
      obtain ⟨T234, h234, k234, X234, e234, E234, A234, O234, st234⟩ := newR X233 hx hZ hown (hw _ (List.mem_of_getElem? (i := 4) rfl)) (hw _ (List.mem_of_getElem? (i := 5) rfl)) rfl (g := (mkF m 161 #[.val (.int u0), .val (.int u1), .val (.int u2), .val (.int (Int32.ofNat n)), .val (.int (0 : Int32)), .val (.int (1 : Int32)), .val (.ref ns), .val (.int (Int32.ofNat kx1)), .val (.int (Int32.ofNat ky1)), .val (.int (Int32.ofNat kx2)), .val (.int (Int32.ofNat ky2)), .val (.ref b232), .unset] [(.int (1 : Int32)), (.ref (A kx2)), (.ref b232)])) rfl (hb hby at_161) rfl (by decide) (cap := 1) (by decide) (by decide) (by decide) (by decide)
      obtain ⟨b234, g234⟩ : ∃ z, z = T233.heap.size := ⟨_, rfl⟩
      rw [← g234] at A234 st234
      have g_b234 : n0 ≤ b234 := Nat.le_trans Z0 (Nat.le_of_eq g234.symm)
      have sz_b234 : (T233.heap).size ≤ b234 := Nat.le_trans OLD.1 (Nat.le_of_eq g234.symm)
      have hi_b234 := Nat.le_trans hk (Nat.le_of_eq g234.symm)
      replace OLD := own_oext OLD E234
      replace hk := Nat.le_trans hk E234.1
      replace Z0 := Nat.le_trans Z0 E234.1
      have V_b234 : Arv Z h234 b234 k234 (.object "java/lang/String") (1 : Int32) [.null] .null := (Arv.new A234 (by decide)).pad (pad_rep [] .null 1)
      refine Gl.go ?_ st234
      show Gl _ _ _ _ (T234.setTop (mkF m 164 _ [(.ref b234), (.ref (A kx2)), (.ref b232)]))
      refine Gl.go ?_ (fun t k => XS.dup X234.here hx rfl (hb hby at_164) rfl rfl k)
      show Gl _ _ _ _ (T234.setTop (mkF m 165 _ [(.ref b234), (.ref b234), (.ref (A kx2)), (.ref b232)]))
      refine Gl.go ?_ (fun t k => XS.iconst X234.here hx rfl (hb hby at_165) k)
      show Gl _ _ _ _ (T234.setTop (mkF m 166 _ [(.int (0 : Int32)), (.ref b234), (.ref b234), (.ref (A kx2)), (.ref b232)]))
      refine Gl.go ?_ (fun t k => XS.aload X234.here hx rfl (hb hby at_166) rfl rfl k)
      show Gl _ _ _ _ (T234.setTop (mkF m 168 _ [(.ref ns), (.int (0 : Int32)), (.ref b234), (.ref b234), (.ref (A kx2)), (.ref b232)]))
      refine Gl.go ?_ (fun t k => XS.iload X234.here hx rfl (hb hby at_168) rfl k)
      show Gl _ _ _ _ (T234.setTop (mkF m 170 #[.val (.int u0), .val (.int u1), .val (.int u2), .val (.int (Int32.ofNat n)), .val (.int (0 : Int32)), .val (.int (1 : Int32)), .val (.ref ns), .val (.int (Int32.ofNat kx1)), .val (.int (Int32.ofNat ky1)), .val (.int (Int32.ofNat kx2)), .val (.int (Int32.ofNat ky2)), .val (.ref b232), .unset] [(.int (Int32.ofNat ky2)), (.ref ns), (.int (0 : Int32)), (.ref b234), (.ref b234), (.ref (A kx2)), (.ref b232)]))
      have rd := RA.rd (hNS.ext OLD) rfl X234 hx hZ e234 (own_lo l_ky2 hn5) (own_hi l_ky2 hn5) (g := (mkF m 170 #[.val (.int u0), .val (.int u1), .val (.int u2), .val (.int (Int32.ofNat n)), .val (.int (0 : Int32)), .val (.int (1 : Int32)), .val (.ref ns), .val (.int (Int32.ofNat kx1)), .val (.int (Int32.ofNat ky1)), .val (.int (Int32.ofNat kx2)), .val (.int (Int32.ofNat ky2)), .val (.ref b232), .unset] [(.int (Int32.ofNat ky2)), (.ref ns), (.int (0 : Int32)), (.ref b234), (.ref b234), (.ref (A kx2)), (.ref b232)])) rfl rfl (hb hby at_170)
      rw [own_tn (Nat.le_trans (Nat.le_of_lt l_ky2) hn5)] at rd
      refine Gl.go ?_ rd
      clear rd
      show Gl _ _ _ _ (T234.setTop (mkF m 171 #[.val (.int u0), .val (.int u1), .val (.int u2), .val (.int (Int32.ofNat n)), .val (.int (0 : Int32)), .val (.int (1 : Int32)), .val (.ref ns), .val (.int (Int32.ofNat kx1)), .val (.int (Int32.ofNat ky1)), .val (.int (Int32.ofNat kx2)), .val (.int (Int32.ofNat ky2)), .val (.ref b232), .unset] [(.ref (A ky2)), (.int (0 : Int32)), (.ref b234), (.ref b234), (.ref (A kx2)), (.ref b232)]))
      obtain ⟨cl235, Ar235, q235, S235, N235, Hh235, G235⟩ := V_b234
      obtain ⟨T235, h235, X235, e235, W235, st235⟩ := stR X234 hx hZ e234 Ar235 (j := (0 : Int32)) (inb_of S235 ⟨by decide, by decide⟩) rfl (Sto.ofV Ar235 q235 O234 (Ins.self (((hStr ky2 l_ky2).1).ext OLD))) (g := (mkF m 171 #[.val (.int u0), .val (.int u1), .val (.int u2), .val (.int (Int32.ofNat n)), .val (.int (0 : Int32)), .val (.int (1 : Int32)), .val (.ref ns), .val (.int (Int32.ofNat kx1)), .val (.int (Int32.ofNat ky1)), .val (.int (Int32.ofNat kx2)), .val (.int (Int32.ofNat ky2)), .val (.ref b232), .unset] [(.ref (A ky2)), (.int (0 : Int32)), (.ref b234), (.ref b234), (.ref (A kx2)), (.ref b232)])) rfl rfl (hb hby at_171)
      replace OLD := own_owr OLD W235 sz_b234
      replace hk := Nat.le_trans hk (Keep.of_wr W235).1
      replace Z0 := Nat.le_trans Z0 (Keep.of_wr W235).1
      have V_b234 : Arv Z h235 b234 k234 (.object "java/lang/String") (1 : Int32) [(.ref (A ky2))] .null := Arv.set Ar235 q235 S235 N235 Hh235 G235 rfl W235 0 rfl (Nat.le_of_ble_eq_true rfl)
      clear Hh235 G235 N235 S235 q235 W235
      clear Ar235
      clear cl235
      replace NF := Fr.snoc X235 NF g_b234
      refine Gl.go ?_ st235
      show Gl _ _ _ _ (T235.setTop (mkF m 172 #[.val (.int u0), .val (.int u1), .val (.int u2), .val (.int (Int32.ofNat n)), .val (.int (0 : Int32)), .val (.int (1 : Int32)), .val (.ref ns), .val (.int (Int32.ofNat kx1)), .val (.int (Int32.ofNat ky1)), .val (.int (Int32.ofNat kx2)), .val (.int (Int32.ofNat ky2)), .val (.ref b232), .unset] [(.ref b234), (.ref (A kx2)), (.ref b232)]))
      obtain ⟨cq236, kq236, q236a, q236b, q236c⟩ := isOf hZ e235 (E_act.ext OLD)
      obtain ⟨_, _, ⟨T236, L236, k236, n236⟩, -, X236, ⟨Lc236, hQ236, l236, y236, z236⟩, st236⟩ := X235.virtualBack hx (y := (⟨"com/example/grantline/grantline/engine/Actions", "withImplied", "(Ljava/lang/String;[Ljava/lang/String;)Lcom/example/grantline/grantline/engine/Actions;"⟩ : MethodName)) (z := (⟨"com/example/grantline/grantline/engine/Actions", "withImplied", "(Ljava/lang/String;[Ljava/lang/String;)Lcom/example/grantline/grantline/engine/Actions;"⟩ : MethodName)) hown (mvT hZ (hw _ (List.mem_of_getElem? (i := 85) rfl))) (mvT hZ (hw _ (List.mem_of_getElem? (i := 86) rfl))) (notFace_of_selects (args := #[]) (mvT hZ (hw _ (List.mem_of_getElem? (i := 88) rfl)))) (mvT hZ (hw _ (List.mem_of_getElem? (i := 88) rfl))) (mvT hZ (hw _ (List.mem_of_getElem? (i := 87) rfl))) (by decide) (backOf (W := 0) (rm_wi l Z a0 hw [] b232 b234 A n kx2 ky2 (own_bits n) cs em ls233 ia233 h235 n0 Z0 (E_act.ext OLD) (F_nm.ext OLD) (F_im.ext OLD) (hIA.ext OLD) hlx hn5 (hLK.ext OLD) (RA.of V_b234 1 rfl (own_lt1 rfl)) (S_EM.ext OLD) hem (fun i q => (hStr i q).ext OLD) (S_CS.ext OLD) hcs l_kx2 l_ky2) hZ (hw _ (List.mem_of_getElem? (i := 89) rfl)) (hw _ (List.mem_of_getElem? (i := 19) rfl)) (by decide) (by decide)) q236a q236c (g := (mkF m 172 #[.val (.int u0), .val (.int u1), .val (.int u2), .val (.int (Int32.ofNat n)), .val (.int (0 : Int32)), .val (.int (1 : Int32)), .val (.ref ns), .val (.int (Int32.ofNat kx1)), .val (.int (Int32.ofNat ky1)), .val (.int (Int32.ofNat kx2)), .val (.int (Int32.ofNat ky2)), .val (.ref b232), .unset] [(.ref b234), (.ref (A kx2)), (.ref b232)])) rfl (by rw [hml]; rfl) (Steps.refl _) (argsL := [(.ref (A kx2)), (.ref b234)]) (rest := []) (lenOf pd_15 rfl) rfl (by show 2 * 0 + _ ≤ _; exact Nat.le_of_eq rfl) (hb hby at_172) (fun _ _ => ⟨rfl, e235, (by decide : 16 + 2 ≤ _), (by decide : 60 + 7 ≤ _)⟩)
      dsimp only [Pt.U, Pt.locs, Pt.cells, Pt.slots] at X236 l236 y236 z236 st236 hQ236
      rw [l236, y236, z236] at X236
      clear l236 y236 z236
      obtain ⟨N236q, r236, ia236, rfl, EX236, ec236, fn236, fi236, iA236⟩ := hQ236
      replace NF := Fr.app NF N236q
      replace OLD := own_oext OLD EX236
      replace hk := Nat.le_trans hk EX236.1
      replace Z0 := Nat.le_trans Z0 EX236.1
      replace S_CS := S_CS.ext OLD
      replace S_EM := S_EM.ext OLD
      replace S_EL := S_EL.ext OLD
      replace hNS := hNS.ext OLD
      replace hLK := hLK.ext OLD
      replace hStr : ∀ i, i < n → StrIs Z T236.heap (A i) (own_ch i) := fun i q => (hStr i q).ext OLD
      replace OLD : Ext T236.heap T236.heap := own_erefl _
      replace E_act := ec236
      replace F_nm := fn236
      replace F_im := fi236
      replace hIA := iA236
      have hl236 : (own_upd (own_bits n) kx2 ky2).length = n := (own_lenu _ _ _).trans hlx
      refine Gl.tr ?_ st236
      show Gl _ _ _ _ (T236.setTop (mkF m 175 #[.val (.int u0), .val (.int u1), .val (.int u2), .val (.int (Int32.ofNat n)), .val (.int (0 : Int32)), .val (.int (1 : Int32)), .val (.ref ns), .val (.int (Int32.ofNat kx1)), .val (.int (Int32.ofNat ky1)), .val (.int (Int32.ofNat kx2)), .val (.int (Int32.ofNat ky2)), .val (.ref b232), .unset] [(.ref r236)]))
      refine Gl.go ?_ (fun t k => XS.astore X236.here hx rfl (hb hby at_175) rfl rfl (l' := #[.val (.int u0), .val (.int u1), .val (.int u2), .val (.int (Int32.ofNat n)), .val (.int (0 : Int32)), .val (.int (1 : Int32)), .val (.ref ns), .val (.int (Int32.ofNat kx1)), .val (.int (Int32.ofNat ky1)), .val (.int (Int32.ofNat kx2)), .val (.int (Int32.ofNat ky2)), .val (.ref r236), .unset]) rfl k)
      show Gl _ _ _ _ (T236.setTop (mkF m 177 _ []))
      refine Gl.go ?_ (fun t k => XS.iloadN X236.here hx rfl (hb hby at_177) rfl k)
      show Gl _ _ _ _ (T236.setTop (mkF m 178 _ [(.int u0)]))
      refine Gl.go ?_ (fun t k => XS.iconst X236.here hx rfl (hb hby at_178) k)
      show Gl _ _ _ _ (T236.setTop (mkF m 179 _ [(.int (1 : Int32)), (.int u0)]))
      refine Gl.go ?_ (fun t k => XS.iloadN X236.here hx rfl (hb hby at_179) rfl k)
      show Gl _ _ _ _ (T236.setTop (mkF m 180 _ [(.int (Int32.ofNat n)), (.int (1 : Int32)), (.int u0)]))
      refine Gl.go ?_ (fun t k => XS.ishl X236.here hx rfl (hb hby at_180) rfl k)
      show Gl _ _ _ _ (T236.setTop (mkF m 181 _ [(.int ((1 : Int32) <<< ((Int32.ofNat n) &&& 31))), (.int u0)]))
      refine Gl.go ?_ (fun t k => XS.iconst X236.here hx rfl (hb hby at_181) k)
      show Gl _ _ _ _ (T236.setTop (mkF m 182 _ [(.int (1 : Int32)), (.int ((1 : Int32) <<< ((Int32.ofNat n) &&& 31))), (.int u0)]))
      refine Gl.go ?_ (fun t k => XS.isub X236.here hx rfl (hb hby at_182) rfl k)
      show Gl _ _ _ _ (T236.setTop (mkF m 183 _ [(.int (((1 : Int32) <<< ((Int32.ofNat n) &&& 31)) - (1 : Int32))), (.int u0)]))
      refine Gl.go ?_ (fun t k => XS.iand X236.here hx rfl (hb hby at_183) rfl k)
      show Gl _ _ _ _ (T236.setTop (mkF m 184 #[.val (.int u0), .val (.int u1), .val (.int u2), .val (.int (Int32.ofNat n)), .val (.int (0 : Int32)), .val (.int (1 : Int32)), .val (.ref ns), .val (.int (Int32.ofNat kx1)), .val (.int (Int32.ofNat ky1)), .val (.int (Int32.ofNat kx2)), .val (.int (Int32.ofNat ky2)), .val (.ref r236), .unset] [(.int (u0 &&& (((1 : Int32) <<< ((Int32.ofNat n) &&& 31)) - (1 : Int32))))]))
      refine Gl.go ?_ (fun t k => XS.istore X236.here hx rfl (hb hby at_184) rfl (l' := #[.val (.int u0), .val (.int u1), .val (.int u2), .val (.int (Int32.ofNat n)), .val (.int (0 : Int32)), .val (.int (1 : Int32)), .val (.ref ns), .val (.int (Int32.ofNat kx1)), .val (.int (Int32.ofNat ky1)), .val (.int (Int32.ofNat kx2)), .val (.int (Int32.ofNat ky2)), .val (.ref r236), .val (.int (u0 &&& (((1 : Int32) <<< ((Int32.ofNat n) &&& 31)) - (1 : Int32))))]) rfl k)
      show Gl _ _ _ _ (T236.setTop (mkF m 186 _ []))
      refine Gl.go ?_ (fun t k => XS.iload X236.here hx rfl (hb hby at_186) rfl k)
      show Gl _ _ _ _ (T236.setTop (mkF m 188 _ [(.int (0 : Int32))]))
      refine Gl.go ?_ (fun t k => XS.ifYes X236.here hx rfl (pc0 := 188) (pc' := 209) rfl (hb hby at_188) rfl ((if0 _ _).trans (teq (by decide : (0 : Int32) = (0 : Int32))).1) (by decide) (by decide) k)
      show Gl _ _ _ _ (T236.setTop (mkF m 209 _ []))
      refine Gl.go ?_ (fun t k => XS.iload X236.here hx rfl (hb hby at_209) rfl k)
      show Gl _ _ _ _ (T236.setTop (mkF m 211 _ [(.int (1 : Int32))]))
      refine Gl.go ?_ (fun t k => XS.ifNo X236.here hx rfl (hb hby at_211) rfl ((if0 _ _).trans (feq (by decide : ¬ ((1 : Int32) = (0 : Int32)))).1) k)
      show Gl _ _ _ _ (T236.setTop (mkF m 214 _ []))
      refine Gl.go ?_ (fun t k => XS.iloadN X236.here hx rfl (hb hby at_214) rfl k)
      show Gl _ _ _ _ (T236.setTop (mkF m 215 _ [(.int u0)]))
      refine Gl.go ?_ (fun t k => XS.iconst X236.here hx rfl (hb hby at_215) k)
      show Gl _ _ _ _ (T236.setTop (mkF m 216 _ [(.int (1 : Int32)), (.int u0)]))
      refine Gl.go ?_ (fun t k => XS.iload X236.here hx rfl (hb hby at_216) rfl k)
      show Gl _ _ _ _ (T236.setTop (mkF m 218 _ [(.int (Int32.ofNat ky2)), (.int (1 : Int32)), (.int u0)]))
      refine Gl.go ?_ (fun t k => XS.ishl X236.here hx rfl (hb hby at_218) rfl k)
      show Gl _ _ _ _ (T236.setTop (mkF m 219 _ [(.int ((1 : Int32) <<< ((Int32.ofNat ky2) &&& 31))), (.int u0)]))
      refine Gl.go ?_ (fun t k => XS.iand X236.here hx rfl (hb hby at_219) rfl k)
      show Gl _ _ _ _ (T236.setTop (mkF m 220 _ [(.int (u0 &&& ((1 : Int32) <<< ((Int32.ofNat ky2) &&& 31))))]))
      by_cases hc237 : (u0 &&& ((1 : Int32) <<< ((Int32.ofNat ky2) &&& 31))) = (0 : Int32)
      · refine Gl.go ?_ (fun t k => XS.ifYes X236.here hx rfl (pc0 := 220) (pc' := 232) rfl (hb hby at_220) rfl ((if0 _ _).trans (teq hc237).1) (by decide) (by decide) k)
        show Gl _ _ _ _ (T236.setTop (mkF m 232 _ []))
        refine Gl.go ?_ (fun t k => XS.aload X236.here hx rfl (hb hby at_232) rfl rfl k)
        show Gl _ _ _ _ (T236.setTop (mkF m 234 _ [(.ref r236)]))
        refine Gl.go ?_ (fun t k => XS.iloadN X236.here hx rfl (hb hby at_234) rfl k)
        show Gl _ _ _ _ (T236.setTop (mkF m 235 #[.val (.int u0), .val (.int u1), .val (.int u2), .val (.int (Int32.ofNat n)), .val (.int (0 : Int32)), .val (.int (1 : Int32)), .val (.ref ns), .val (.int (Int32.ofNat kx1)), .val (.int (Int32.ofNat ky1)), .val (.int (Int32.ofNat kx2)), .val (.int (Int32.ofNat ky2)), .val (.ref r236), .val (.int (u0 &&& (((1 : Int32) <<< ((Int32.ofNat n) &&& 31)) - (1 : Int32))))] [(.int u0), (.ref r236)]))
        obtain ⟨cq238, kq238, q238a, q238b, q238c⟩ := isOf hZ rfl (E_act.ext OLD)
        obtain ⟨_, _, ⟨T238, L238, k238, n238⟩, -, X238, ⟨Lc238, hQ238, l238, y238, z238⟩, st238⟩ := X236.virtualBack hx (y := (⟨"com/example/grantline/grantline/engine/Actions", "impliedMask", "(I)I"⟩ : MethodName)) (z := (⟨"com/example/grantline/grantline/engine/Actions", "impliedMask", "(I)I"⟩ : MethodName)) hown (mvT hZ (hw _ (List.mem_of_getElem? (i := 79) rfl))) (mvT hZ (hw _ (List.mem_of_getElem? (i := 80) rfl))) (notFace_of_selects (args := #[]) (mvT hZ (hw _ (List.mem_of_getElem? (i := 82) rfl)))) (mvT hZ (hw _ (List.mem_of_getElem? (i := 82) rfl))) (mvT hZ (hw _ (List.mem_of_getElem? (i := 81) rfl))) (by decide) (backOf (W := 0) (rm12 l Z a0 hw [] r236 u0 ia236 n (Int32.ofNat n) (nth (own_upd (own_bits n) kx2 ky2)) T236.heap (F_im.ext OLD) (IA.ba (hIA.ext OLD) n hl236 hn5) (own_ton hn5)) hZ (hw _ (List.mem_of_getElem? (i := 83) rfl)) (hw _ (List.mem_of_getElem? (i := 19) rfl)) (by decide) (by decide)) q238a q238c (g := (mkF m 235 #[.val (.int u0), .val (.int u1), .val (.int u2), .val (.int (Int32.ofNat n)), .val (.int (0 : Int32)), .val (.int (1 : Int32)), .val (.ref ns), .val (.int (Int32.ofNat kx1)), .val (.int (Int32.ofNat ky1)), .val (.int (Int32.ofNat kx2)), .val (.int (Int32.ofNat ky2)), .val (.ref r236), .val (.int (u0 &&& (((1 : Int32) <<< ((Int32.ofNat n) &&& 31)) - (1 : Int32))))] [(.int u0), (.ref r236)])) rfl (by rw [hml]; rfl) (Steps.refl _) (argsL := [(.int u0)]) (rest := []) (lenOf pd_14 rfl) rfl (by show 2 * 0 + _ ≤ _; exact Nat.le_of_eq rfl) (hb hby at_235) (fun _ _ => ⟨rfl, rfl, (by decide : 18 + 0 ≤ _), (by decide : 67 + 0 ≤ _)⟩)
        dsimp only [Pt.U, Pt.locs, Pt.cells, Pt.slots] at X238 l238 y238 z238 st238 hQ238
        rw [l238, y238, z238] at X238
        clear l238 y238 z238
        obtain ⟨rfl, rfl, e238⟩ := hQ238
        replace NF := Fr.app NF (Fr.nil n0)
        refine Gl.tr ?_ st238
        show Gl _ _ _ _ (T238.setTop (mkF m 238 _ [(.int (f_mask u0 n (nth (own_upd (own_bits n) kx2 ky2))))]))
        refine Gl.go ?_ (fun t k => XS.iload X238.here hx rfl (hb hby at_238) rfl k)
        show Gl _ _ _ _ (T238.setTop (mkF m 240 _ [(.int (u0 &&& (((1 : Int32) <<< ((Int32.ofNat n) &&& 31)) - (1 : Int32)))), (.int (f_mask u0 n (nth (own_upd (own_bits n) kx2 ky2))))]))
        refine Gl.go ?_ (fun t k => XS.icmpNo X238.here hx rfl (hb hby at_240) rfl (teq (((own_f1 u0 kx2 hlx hc237 l_ky2 hn5).trans (own_f0 u0 hn5)))).2 k)
        show Gl _ _ _ _ (T238.setTop (mkF m 243 _ []))
        refine Gl.go ?_ (fun t k => XS.iconst X238.here hx rfl (hb hby at_243) k)
        show Gl _ _ _ _ (T238.setTop (mkF m 244 _ [(.int (1 : Int32))]))
        refine Gl.go ?_ (fun t k => XS.goto X238.here hx rfl (pc0 := 244) (pc' := 248) rfl (hb hby at_244) (by decide) (by decide) k)
        show Gl _ _ _ _ (T238.setTop (mkF m 248 _ [(.int (1 : Int32))]))
        obtain ⟨fs, hr, hrun, hended, -, hW, hpp, hsame⟩ := Stand.leaveW (s := s) (vm₁ := T231.vm) X238 hS (by rw [e238]; exact hk) (v := some (.int (1 : Int32))) (fun h => by rw [Bd.returns] at h; cases h) (BodyLoose.notSynchronized Bd)
        exact Gl.mk ⟨_, _, retN X238 hx (t := .boolean) Bd.returns (by simp) (hb hby at_248) hr, hrun, hended, _, _, rfl, ⟨rfl, NF⟩, ⟨_, rfl⟩, hW, hpp, hsame.mono (by decide) (by decide)⟩
      · refine Gl.go ?_ (fun t k => XS.ifNo X236.here hx rfl (hb hby at_220) rfl ((if0 _ _).trans (feq hc237).1) k)
        show Gl _ _ _ _ (T236.setTop (mkF m 223 _ []))
        refine Gl.go ?_ (fun t k => XS.iload X236.here hx rfl (hb hby at_223) rfl k)
        show Gl _ _ _ _ (T236.setTop (mkF m 225 _ [(.int (u0 &&& (((1 : Int32) <<< ((Int32.ofNat n) &&& 31)) - (1 : Int32))))]))
        refine Gl.go ?_ (fun t k => XS.iconst X236.here hx rfl (hb hby at_225) k)
        show Gl _ _ _ _ (T236.setTop (mkF m 226 _ [(.int (1 : Int32)), (.int (u0 &&& (((1 : Int32) <<< ((Int32.ofNat n) &&& 31)) - (1 : Int32))))]))
        refine Gl.go ?_ (fun t k => XS.iload X236.here hx rfl (hb hby at_226) rfl k)
        show Gl _ _ _ _ (T236.setTop (mkF m 228 _ [(.int (Int32.ofNat kx2)), (.int (1 : Int32)), (.int (u0 &&& (((1 : Int32) <<< ((Int32.ofNat n) &&& 31)) - (1 : Int32))))]))
        refine Gl.go ?_ (fun t k => XS.ishl X236.here hx rfl (hb hby at_228) rfl k)
        show Gl _ _ _ _ (T236.setTop (mkF m 229 _ [(.int ((1 : Int32) <<< ((Int32.ofNat kx2) &&& 31))), (.int (u0 &&& (((1 : Int32) <<< ((Int32.ofNat n) &&& 31)) - (1 : Int32))))]))
        refine Gl.go ?_ (fun t k => XS.ior X236.here hx rfl (hb hby at_229) rfl k)
        show Gl _ _ _ _ (T236.setTop (mkF m 230 #[.val (.int u0), .val (.int u1), .val (.int u2), .val (.int (Int32.ofNat n)), .val (.int (0 : Int32)), .val (.int (1 : Int32)), .val (.ref ns), .val (.int (Int32.ofNat kx1)), .val (.int (Int32.ofNat ky1)), .val (.int (Int32.ofNat kx2)), .val (.int (Int32.ofNat ky2)), .val (.ref r236), .val (.int (u0 &&& (((1 : Int32) <<< ((Int32.ofNat n) &&& 31)) - (1 : Int32))))] [(.int ((u0 &&& (((1 : Int32) <<< ((Int32.ofNat n) &&& 31)) - (1 : Int32))) ||| ((1 : Int32) <<< ((Int32.ofNat kx2) &&& 31))))]))
        refine Gl.go ?_ (fun t k => XS.istore X236.here hx rfl (hb hby at_230) rfl (l' := #[.val (.int u0), .val (.int u1), .val (.int u2), .val (.int (Int32.ofNat n)), .val (.int (0 : Int32)), .val (.int (1 : Int32)), .val (.ref ns), .val (.int (Int32.ofNat kx1)), .val (.int (Int32.ofNat ky1)), .val (.int (Int32.ofNat kx2)), .val (.int (Int32.ofNat ky2)), .val (.ref r236), .val (.int ((u0 &&& (((1 : Int32) <<< ((Int32.ofNat n) &&& 31)) - (1 : Int32))) ||| ((1 : Int32) <<< ((Int32.ofNat kx2) &&& 31))))]) rfl k)
        show Gl _ _ _ _ (T236.setTop (mkF m 232 _ []))
        refine Gl.go ?_ (fun t k => XS.aload X236.here hx rfl (hb hby at_232) rfl rfl k)
        show Gl _ _ _ _ (T236.setTop (mkF m 234 _ [(.ref r236)]))
        refine Gl.go ?_ (fun t k => XS.iloadN X236.here hx rfl (hb hby at_234) rfl k)
        show Gl _ _ _ _ (T236.setTop (mkF m 235 #[.val (.int u0), .val (.int u1), .val (.int u2), .val (.int (Int32.ofNat n)), .val (.int (0 : Int32)), .val (.int (1 : Int32)), .val (.ref ns), .val (.int (Int32.ofNat kx1)), .val (.int (Int32.ofNat ky1)), .val (.int (Int32.ofNat kx2)), .val (.int (Int32.ofNat ky2)), .val (.ref r236), .val (.int ((u0 &&& (((1 : Int32) <<< ((Int32.ofNat n) &&& 31)) - (1 : Int32))) ||| ((1 : Int32) <<< ((Int32.ofNat kx2) &&& 31))))] [(.int u0), (.ref r236)]))
        obtain ⟨cq239, kq239, q239a, q239b, q239c⟩ := isOf hZ rfl (E_act.ext OLD)
        obtain ⟨_, _, ⟨T239, L239, k239, n239⟩, -, X239, ⟨Lc239, hQ239, l239, y239, z239⟩, st239⟩ := X236.virtualBack hx (y := (⟨"com/example/grantline/grantline/engine/Actions", "impliedMask", "(I)I"⟩ : MethodName)) (z := (⟨"com/example/grantline/grantline/engine/Actions", "impliedMask", "(I)I"⟩ : MethodName)) hown (mvT hZ (hw _ (List.mem_of_getElem? (i := 79) rfl))) (mvT hZ (hw _ (List.mem_of_getElem? (i := 80) rfl))) (notFace_of_selects (args := #[]) (mvT hZ (hw _ (List.mem_of_getElem? (i := 82) rfl)))) (mvT hZ (hw _ (List.mem_of_getElem? (i := 82) rfl))) (mvT hZ (hw _ (List.mem_of_getElem? (i := 81) rfl))) (by decide) (backOf (W := 0) (rm12 l Z a0 hw [] r236 u0 ia236 n (Int32.ofNat n) (nth (own_upd (own_bits n) kx2 ky2)) T236.heap (F_im.ext OLD) (IA.ba (hIA.ext OLD) n hl236 hn5) (own_ton hn5)) hZ (hw _ (List.mem_of_getElem? (i := 83) rfl)) (hw _ (List.mem_of_getElem? (i := 19) rfl)) (by decide) (by decide)) q239a q239c (g := (mkF m 235 #[.val (.int u0), .val (.int u1), .val (.int u2), .val (.int (Int32.ofNat n)), .val (.int (0 : Int32)), .val (.int (1 : Int32)), .val (.ref ns), .val (.int (Int32.ofNat kx1)), .val (.int (Int32.ofNat ky1)), .val (.int (Int32.ofNat kx2)), .val (.int (Int32.ofNat ky2)), .val (.ref r236), .val (.int ((u0 &&& (((1 : Int32) <<< ((Int32.ofNat n) &&& 31)) - (1 : Int32))) ||| ((1 : Int32) <<< ((Int32.ofNat kx2) &&& 31))))] [(.int u0), (.ref r236)])) rfl (by rw [hml]; rfl) (Steps.refl _) (argsL := [(.int u0)]) (rest := []) (lenOf pd_14 rfl) rfl (by show 2 * 0 + _ ≤ _; exact Nat.le_of_eq rfl) (hb hby at_235) (fun _ _ => ⟨rfl, rfl, (by decide : 18 + 0 ≤ _), (by decide : 67 + 0 ≤ _)⟩)
        dsimp only [Pt.U, Pt.locs, Pt.cells, Pt.slots] at X239 l239 y239 z239 st239 hQ239
        rw [l239, y239, z239] at X239
        clear l239 y239 z239
        obtain ⟨rfl, rfl, e239⟩ := hQ239
        replace NF := Fr.app NF (Fr.nil n0)
        refine Gl.tr ?_ st239
        show Gl _ _ _ _ (T239.setTop (mkF m 238 _ [(.int (f_mask u0 n (nth (own_upd (own_bits n) kx2 ky2))))]))
        refine Gl.go ?_ (fun t k => XS.iload X239.here hx rfl (hb hby at_238) rfl k)
        show Gl _ _ _ _ (T239.setTop (mkF m 240 _ [(.int ((u0 &&& (((1 : Int32) <<< ((Int32.ofNat n) &&& 31)) - (1 : Int32))) ||| ((1 : Int32) <<< ((Int32.ofNat kx2) &&& 31)))), (.int (f_mask u0 n (nth (own_upd (own_bits n) kx2 ky2))))]))
        refine Gl.go ?_ (fun t k => XS.icmpNo X239.here hx rfl (hb hby at_240) rfl (teq (((own_f2 u0 kx2 hlx hc237 l_ky2 hn5).trans (own_or (own_f0 u0 hn5))))).2 k)
        show Gl _ _ _ _ (T239.setTop (mkF m 243 _ []))
        refine Gl.go ?_ (fun t k => XS.iconst X239.here hx rfl (hb hby at_243) k)
        show Gl _ _ _ _ (T239.setTop (mkF m 244 _ [(.int (1 : Int32))]))
        refine Gl.go ?_ (fun t k => XS.goto X239.here hx rfl (pc0 := 244) (pc' := 248) rfl (hb hby at_244) (by decide) (by decide) k)
        show Gl _ _ _ _ (T239.setTop (mkF m 248 _ [(.int (1 : Int32))]))
        obtain ⟨fs, hr, hrun, hended, -, hW, hpp, hsame⟩ := Stand.leaveW (s := s) (vm₁ := T231.vm) X239 hS (by rw [e239]; exact hk) (v := some (.int (1 : Int32))) (fun h => by rw [Bd.returns] at h; cases h) (BodyLoose.notSynchronized Bd)
        exact Gl.mk ⟨_, _, retN X239 hx (t := .boolean) Bd.returns (by simp) (hb hby at_248) hr, hrun, hended, _, _, rfl, ⟨rfl, NF⟩, ⟨_, rfl⟩, hW, hpp, hsame.mono (by decide) (by decide)⟩
  · refine Gl.go ?_ (fun t k => XS.ifNo X0.here hx rfl (hb hby at_17) rfl ((if0 _ _).trans (feq hc225).1) k)
    show Gl _ _ _ _ (s₁.setTop (mkF m 20 _ []))
    refine Gl.go ?_ (fun t k => XS.iconst X0.here hx rfl (hb hby at_20) k)
    show Gl _ _ _ _ (s₁.setTop (mkF m 21 _ [(.int (1 : Int32))]))
    refine Gl.go ?_ (fun t k => XS.goto X0.here hx rfl (pc0 := 21) (pc' := 25) rfl (hb hby at_21) (by decide) (by decide) k)
    show Gl _ _ _ _ (s₁.setTop (mkF m 25 #[.val (.int u0), .val (.int u1), .val (.int u2), .val (.int (Int32.ofNat n)), .unset, .unset, .unset, .unset, .unset, .unset, .unset, .unset, .unset] [(.int (1 : Int32))]))
    refine Gl.go ?_ (fun t k => XS.istore X0.here hx rfl (hb hby at_25) rfl (l' := #[.val (.int u0), .val (.int u1), .val (.int u2), .val (.int (Int32.ofNat n)), .val (.int (1 : Int32)), .unset, .unset, .unset, .unset, .unset, .unset, .unset, .unset]) rfl k)
    show Gl _ _ _ _ (s₁.setTop (mkF m 27 _ []))
    refine Gl.go ?_ (fun t k => XS.iloadN X0.here hx rfl (hb hby at_27) rfl k)
    show Gl _ _ _ _ (s₁.setTop (mkF m 28 _ [(.int (Int32.ofNat n))]))
    refine Gl.go ?_ (fun t k => XS.ifNo X0.here hx rfl (hb hby at_28) rfl ((if0 _ _).trans (tlt (own_pos hn1 hn5)).2.2.2) k)
    show Gl _ _ _ _ (s₁.setTop (mkF m 31 _ []))
    refine Gl.go ?_ (fun t k => XS.iloadN X0.here hx rfl (hb hby at_31) rfl k)
    show Gl _ _ _ _ (s₁.setTop (mkF m 32 _ [(.int u1)]))
    refine Gl.go ?_ (fun t k => XS.iconst X0.here hx rfl (hb hby at_32) k)
    show Gl _ _ _ _ (s₁.setTop (mkF m 33 _ [(.int (4 : Int32)), (.int u1)]))
    refine Gl.go ?_ (fun t k => XS.iushr X0.here hx rfl (hb hby at_33) rfl k)
    show Gl _ _ _ _ (s₁.setTop (mkF m 34 _ [(.int ((u1.toUInt32 >>> ((4 : Int32) &&& 31).toUInt32).toInt32))]))
    refine Gl.go ?_ (fun t k => XS.iconst X0.here hx rfl (hb hby at_34) k)
    show Gl _ _ _ _ (s₁.setTop (mkF m 35 _ [(.int (1 : Int32)), (.int ((u1.toUInt32 >>> ((4 : Int32) &&& 31).toUInt32).toInt32))]))
    refine Gl.go ?_ (fun t k => XS.iand X0.here hx rfl (hb hby at_35) rfl k)
    show Gl _ _ _ _ (s₁.setTop (mkF m 36 _ [(.int (((u1.toUInt32 >>> ((4 : Int32) &&& 31).toUInt32).toInt32) &&& (1 : Int32)))]))
    by_cases hc240 : (((u1.toUInt32 >>> ((4 : Int32) &&& 31).toUInt32).toInt32) &&& (1 : Int32)) = (0 : Int32)
    · refine Gl.go ?_ (fun t k => XS.ifYes X0.here hx rfl (pc0 := 36) (pc' := 43) rfl (hb hby at_36) rfl ((if0 _ _).trans (teq hc240).1) (by decide) (by decide) k)
      show Gl _ _ _ _ (s₁.setTop (mkF m 43 _ []))
      refine Gl.go ?_ (fun t k => XS.iconst X0.here hx rfl (hb hby at_43) k)
      show Gl _ _ _ _ (s₁.setTop (mkF m 44 #[.val (.int u0), .val (.int u1), .val (.int u2), .val (.int (Int32.ofNat n)), .val (.int (1 : Int32)), .unset, .unset, .unset, .unset, .unset, .unset, .unset, .unset] [(.int (0 : Int32))]))
      refine Gl.go ?_ (fun t k => XS.istore X0.here hx rfl (hb hby at_44) rfl (l' := #[.val (.int u0), .val (.int u1), .val (.int u2), .val (.int (Int32.ofNat n)), .val (.int (1 : Int32)), .val (.int (0 : Int32)), .unset, .unset, .unset, .unset, .unset, .unset, .unset]) rfl k)
      show Gl _ _ _ _ (s₁.setTop (mkF m 46 _ []))
      refine Gl.go ?_ (fun t k => XS.iloadN X0.here hx rfl (hb hby at_46) rfl k)
      show Gl _ _ _ _ (s₁.setTop (mkF m 47 #[.val (.int u0), .val (.int u1), .val (.int u2), .val (.int (Int32.ofNat n)), .val (.int (1 : Int32)), .val (.int (0 : Int32)), .unset, .unset, .unset, .unset, .unset, .unset, .unset] [(.int (Int32.ofNat n))]))
      obtain ⟨_, _, ⟨T241, L241, k241, n241⟩, -, X241, hS, hgr241, ⟨Lc241, hQ241, l241, y241, z241⟩, st241⟩ := callSS X0 hx (y := (⟨"com/example/grantline/grantline/engine/ActionsImpliedMaskPinLaw", "names", "(I)[Ljava/lang/String;"⟩ : MethodName)) hown (mvT hZ (hw _ (List.mem_of_getElem? (i := 0) rfl))) (mvT hZ (hw _ (List.mem_of_getElem? (i := 1) rfl))) (mvT hZ (hw _ (List.mem_of_getElem? (i := 2) rfl))) (mvT hZ (hw _ (List.mem_of_getElem? (i := 3) rfl))) (by decide) (own_back (W := 0) (rm_nms l Z a0 hw [] n hn5 h0 n0 Z0 hn0 hZ0 hH9 hH11 hH13 hH15 hH17 hcw) hZ (hw _ (List.mem_of_getElem? (i := 3) rfl)) (hw _ (List.mem_of_getElem? (i := 2) rfl)) (by decide) (by decide)) (g := (mkF m 47 #[.val (.int u0), .val (.int u1), .val (.int u2), .val (.int (Int32.ofNat n)), .val (.int (1 : Int32)), .val (.int (0 : Int32)), .unset, .unset, .unset, .unset, .unset, .unset, .unset] [(.int (Int32.ofNat n))])) rfl (by rw [hml]; rfl) (argsL := [(.int (Int32.ofNat n))]) (rest := []) (lenOf pd_12 rfl) rfl (by show 2 * 0 + _ ≤ _; exact Nat.le_of_eq rfl) (hb hby at_47) (fun _ hW1 => ⟨rfl, e0, ⟨(by decide : 0 + 11 ≤ _), (by decide : 0 + 45 ≤ _)⟩, own_ibw hIB hW1⟩)
      dsimp only [Pt.U, Pt.locs, Pt.cells, Pt.slots] at X241 l241 y241 z241 st241 hQ241 hS
      rw [l241, y241, z241] at X241
      clear l241 y241 z241 hgr241
      obtain ⟨Nq, ns, A, rfl, EX, hNS, hStr⟩ := hQ241
      replace NF := Fr.app NF Nq
      replace hZ : Z.Warmed39 (s.setVm T241.vm).vm := State.Warmed39.trans (t := s) hZ hS.1
      replace hown : (s.setVm T241.vm).vm.findClass "com/example/grantline/grantline/engine/ActionsImpliedMaskPinLaw" = some m.cls := by rw [show (s.setVm T241.vm).vm = T241.vm from rfl, hS.1.alike.findClass]; exact hown
      replace S_CS := S_CS.ext EX
      replace S_EM := S_EM.ext EX
      replace S_EL := S_EL.ext EX
      replace E_em := E_em.ext EX
      replace Z0 := Nat.le_trans Z0 EX.1
      have hem : 2 ≤ n → (A 1) ≠ em := fun q => Exa.ne (hStr 1 (Nat.lt_of_lt_of_le (by decide) q)).1 E_em (by decide)
      have OLD : Ext T241.heap T241.heap := own_erefl _
      have hk := Nat.le_refl T241.heap.size
      refine Gl.tr ?_ st241
      show Gl _ _ _ _ (T241.setTop (mkF m 50 #[.val (.int u0), .val (.int u1), .val (.int u2), .val (.int (Int32.ofNat n)), .val (.int (1 : Int32)), .val (.int (0 : Int32)), .unset, .unset, .unset, .unset, .unset, .unset, .unset] [(.ref ns)]))
      refine Gl.go ?_ (fun t k => XS.astore X241.here hx rfl (hb hby at_50) rfl rfl (l' := #[.val (.int u0), .val (.int u1), .val (.int u2), .val (.int (Int32.ofNat n)), .val (.int (1 : Int32)), .val (.int (0 : Int32)), .val (.ref ns), .unset, .unset, .unset, .unset, .unset, .unset]) rfl k)
      show Gl _ _ _ _ (T241.setTop (mkF m 52 _ []))
      refine Gl.go ?_ (fun t k => XS.iconst X241.here hx rfl (hb hby at_52) k)
      show Gl _ _ _ _ (T241.setTop (mkF m 53 #[.val (.int u0), .val (.int u1), .val (.int u2), .val (.int (Int32.ofNat n)), .val (.int (1 : Int32)), .val (.int (0 : Int32)), .val (.ref ns), .unset, .unset, .unset, .unset, .unset, .unset] [(.int (0 : Int32))]))
      refine Gl.go ?_ (fun t k => XS.istore X241.here hx rfl (hb hby at_53) rfl (l' := #[.val (.int u0), .val (.int u1), .val (.int u2), .val (.int (Int32.ofNat n)), .val (.int (1 : Int32)), .val (.int (0 : Int32)), .val (.ref ns), .val (.int (0 : Int32)), .unset, .unset, .unset, .unset, .unset]) rfl k)
      show Gl _ _ _ _ (T241.setTop (mkF m 55 _ []))
      refine Gl.go ?_ (fun t k => XS.iconst X241.here hx rfl (hb hby at_55) k)
      show Gl _ _ _ _ (T241.setTop (mkF m 56 #[.val (.int u0), .val (.int u1), .val (.int u2), .val (.int (Int32.ofNat n)), .val (.int (1 : Int32)), .val (.int (0 : Int32)), .val (.ref ns), .val (.int (0 : Int32)), .unset, .unset, .unset, .unset, .unset] [(.int (0 : Int32))]))
      refine Gl.go ?_ (fun t k => XS.istore X241.here hx rfl (hb hby at_56) rfl (l' := #[.val (.int u0), .val (.int u1), .val (.int u2), .val (.int (Int32.ofNat n)), .val (.int (1 : Int32)), .val (.int (0 : Int32)), .val (.ref ns), .val (.int (0 : Int32)), .val (.int (0 : Int32)), .unset, .unset, .unset, .unset]) rfl k)
      show Gl _ _ _ _ (T241.setTop (mkF m 58 _ []))
      refine Gl.go ?_ (fun t k => XS.iconst X241.here hx rfl (hb hby at_58) k)
      show Gl _ _ _ _ (T241.setTop (mkF m 59 #[.val (.int u0), .val (.int u1), .val (.int u2), .val (.int (Int32.ofNat n)), .val (.int (1 : Int32)), .val (.int (0 : Int32)), .val (.ref ns), .val (.int (0 : Int32)), .val (.int (0 : Int32)), .unset, .unset, .unset, .unset] [(.int (0 : Int32))]))
      refine Gl.go ?_ (fun t k => XS.istore X241.here hx rfl (hb hby at_59) rfl (l' := #[.val (.int u0), .val (.int u1), .val (.int u2), .val (.int (Int32.ofNat n)), .val (.int (1 : Int32)), .val (.int (0 : Int32)), .val (.ref ns), .val (.int (0 : Int32)), .val (.int (0 : Int32)), .val (.int (0 : Int32)), .unset, .unset, .unset]) rfl k)
      show Gl _ _ _ _ (T241.setTop (mkF m 61 _ []))
      refine Gl.go ?_ (fun t k => XS.iconst X241.here hx rfl (hb hby at_61) k)
      show Gl _ _ _ _ (T241.setTop (mkF m 62 #[.val (.int u0), .val (.int u1), .val (.int u2), .val (.int (Int32.ofNat n)), .val (.int (1 : Int32)), .val (.int (0 : Int32)), .val (.ref ns), .val (.int (0 : Int32)), .val (.int (0 : Int32)), .val (.int (0 : Int32)), .unset, .unset, .unset] [(.int (0 : Int32))]))
      refine Gl.go ?_ (fun t k => XS.istore X241.here hx rfl (hb hby at_62) rfl (l' := #[.val (.int u0), .val (.int u1), .val (.int u2), .val (.int (Int32.ofNat n)), .val (.int (1 : Int32)), .val (.int (0 : Int32)), .val (.ref ns), .val (.int (0 : Int32)), .val (.int (0 : Int32)), .val (.int (0 : Int32)), .val (.int (0 : Int32)), .unset, .unset]) rfl k)
      show Gl _ _ _ _ (T241.setTop (mkF m 64 _ []))
      refine Gl.go ?_ (fun t k => XS.iloadN X241.here hx rfl (hb hby at_64) rfl k)
      show Gl _ _ _ _ (T241.setTop (mkF m 65 _ [(.int (Int32.ofNat n))]))
      refine Gl.go ?_ (fun t k => XS.ifNo X241.here hx rfl (hb hby at_65) rfl ((if0 _ _).trans (tlt (own_pos hn1 hn5)).2.2.2) k)
      show Gl _ _ _ _ (T241.setTop (mkF m 68 _ []))
      refine Gl.go ?_ (fun t k => XS.iloadN X241.here hx rfl (hb hby at_68) rfl k)
      show Gl _ _ _ _ (T241.setTop (mkF m 69 _ [(.int u2)]))
      refine Gl.go ?_ (fun t k => XS.bipush X241.here hx rfl (hb hby at_69) k)
      show Gl _ _ _ _ (T241.setTop (mkF m 71 _ [(.int (7 : Int32)), (.int u2)]))
      refine Gl.go ?_ (fun t k => XS.iand X241.here hx rfl (hb hby at_71) rfl k)
      show Gl _ _ _ _ (T241.setTop (mkF m 72 _ [(.int (u2 &&& (7 : Int32)))]))
      refine Gl.go ?_ (fun t k => XS.iloadN X241.here hx rfl (hb hby at_72) rfl k)
      show Gl _ _ _ _ (T241.setTop (mkF m 73 #[.val (.int u0), .val (.int u1), .val (.int u2), .val (.int (Int32.ofNat n)), .val (.int (1 : Int32)), .val (.int (0 : Int32)), .val (.ref ns), .val (.int (0 : Int32)), .val (.int (0 : Int32)), .val (.int (0 : Int32)), .val (.int (0 : Int32)), .unset, .unset] [(.int (Int32.ofNat n)), (.int (u2 &&& (7 : Int32)))]))
      refine Gl.go ?_ (fun t k => iremM X241 hx rfl (hb hby at_73) rfl (own_nzn hn1 hn5) k)
      show Gl _ _ _ _ (T241.setTop (mkF m 74 #[.val (.int u0), .val (.int u1), .val (.int u2), .val (.int (Int32.ofNat n)), .val (.int (1 : Int32)), .val (.int (0 : Int32)), .val (.ref ns), .val (.int (0 : Int32)), .val (.int (0 : Int32)), .val (.int (0 : Int32)), .val (.int (0 : Int32)), .unset, .unset] [(.int ((u2 &&& (7 : Int32)) % (Int32.ofNat n)))]))
      obtain ⟨kx1, l_kx1, q_kx1⟩ := own_rem7 u2 (Int32.ofNat n) n hn1 (own_ton hn5)
      rw [q_kx1]
      refine Gl.go ?_ (fun t k => XS.istore X241.here hx rfl (hb hby at_74) rfl (l' := #[.val (.int u0), .val (.int u1), .val (.int u2), .val (.int (Int32.ofNat n)), .val (.int (1 : Int32)), .val (.int (0 : Int32)), .val (.ref ns), .val (.int (Int32.ofNat kx1)), .val (.int (0 : Int32)), .val (.int (0 : Int32)), .val (.int (0 : Int32)), .unset, .unset]) rfl k)
      show Gl _ _ _ _ (T241.setTop (mkF m 76 _ []))
      refine Gl.go ?_ (fun t k => XS.iloadN X241.here hx rfl (hb hby at_76) rfl k)
      show Gl _ _ _ _ (T241.setTop (mkF m 77 _ [(.int u2)]))
      refine Gl.go ?_ (fun t k => XS.iconst X241.here hx rfl (hb hby at_77) k)
      show Gl _ _ _ _ (T241.setTop (mkF m 78 _ [(.int (3 : Int32)), (.int u2)]))
      refine Gl.go ?_ (fun t k => XS.iushr X241.here hx rfl (hb hby at_78) rfl k)
      show Gl _ _ _ _ (T241.setTop (mkF m 79 _ [(.int ((u2.toUInt32 >>> ((3 : Int32) &&& 31).toUInt32).toInt32))]))
      refine Gl.go ?_ (fun t k => XS.bipush X241.here hx rfl (hb hby at_79) k)
      show Gl _ _ _ _ (T241.setTop (mkF m 81 _ [(.int (7 : Int32)), (.int ((u2.toUInt32 >>> ((3 : Int32) &&& 31).toUInt32).toInt32))]))
      refine Gl.go ?_ (fun t k => XS.iand X241.here hx rfl (hb hby at_81) rfl k)
      show Gl _ _ _ _ (T241.setTop (mkF m 82 _ [(.int (((u2.toUInt32 >>> ((3 : Int32) &&& 31).toUInt32).toInt32) &&& (7 : Int32)))]))
      refine Gl.go ?_ (fun t k => XS.iloadN X241.here hx rfl (hb hby at_82) rfl k)
      show Gl _ _ _ _ (T241.setTop (mkF m 83 #[.val (.int u0), .val (.int u1), .val (.int u2), .val (.int (Int32.ofNat n)), .val (.int (1 : Int32)), .val (.int (0 : Int32)), .val (.ref ns), .val (.int (Int32.ofNat kx1)), .val (.int (0 : Int32)), .val (.int (0 : Int32)), .val (.int (0 : Int32)), .unset, .unset] [(.int (Int32.ofNat n)), (.int (((u2.toUInt32 >>> ((3 : Int32) &&& 31).toUInt32).toInt32) &&& (7 : Int32)))]))
      refine Gl.go ?_ (fun t k => iremM X241 hx rfl (hb hby at_83) rfl (own_nzn hn1 hn5) k)
      show Gl _ _ _ _ (T241.setTop (mkF m 84 #[.val (.int u0), .val (.int u1), .val (.int u2), .val (.int (Int32.ofNat n)), .val (.int (1 : Int32)), .val (.int (0 : Int32)), .val (.ref ns), .val (.int (Int32.ofNat kx1)), .val (.int (0 : Int32)), .val (.int (0 : Int32)), .val (.int (0 : Int32)), .unset, .unset] [(.int ((((u2.toUInt32 >>> ((3 : Int32) &&& 31).toUInt32).toInt32) &&& (7 : Int32)) % (Int32.ofNat n)))]))
      obtain ⟨ky1, l_ky1, q_ky1⟩ := own_rem7 ((u2.toUInt32 >>> ((3 : Int32) &&& 31).toUInt32).toInt32) (Int32.ofNat n) n hn1 (own_ton hn5)
      rw [q_ky1]
      refine Gl.go ?_ (fun t k => XS.istore X241.here hx rfl (hb hby at_84) rfl (l' := #[.val (.int u0), .val (.int u1), .val (.int u2), .val (.int (Int32.ofNat n)), .val (.int (1 : Int32)), .val (.int (0 : Int32)), .val (.ref ns), .val (.int (Int32.ofNat kx1)), .val (.int (Int32.ofNat ky1)), .val (.int (0 : Int32)), .val (.int (0 : Int32)), .unset, .unset]) rfl k)
      show Gl _ _ _ _ (T241.setTop (mkF m 86 _ []))
      refine Gl.go ?_ (fun t k => XS.iloadN X241.here hx rfl (hb hby at_86) rfl k)
      show Gl _ _ _ _ (T241.setTop (mkF m 87 _ [(.int u2)]))
      refine Gl.go ?_ (fun t k => XS.bipush X241.here hx rfl (hb hby at_87) k)
      show Gl _ _ _ _ (T241.setTop (mkF m 89 _ [(.int (6 : Int32)), (.int u2)]))
      refine Gl.go ?_ (fun t k => XS.iushr X241.here hx rfl (hb hby at_89) rfl k)
      show Gl _ _ _ _ (T241.setTop (mkF m 90 _ [(.int ((u2.toUInt32 >>> ((6 : Int32) &&& 31).toUInt32).toInt32))]))
      refine Gl.go ?_ (fun t k => XS.bipush X241.here hx rfl (hb hby at_90) k)
      show Gl _ _ _ _ (T241.setTop (mkF m 92 _ [(.int (7 : Int32)), (.int ((u2.toUInt32 >>> ((6 : Int32) &&& 31).toUInt32).toInt32))]))
      refine Gl.go ?_ (fun t k => XS.iand X241.here hx rfl (hb hby at_92) rfl k)
      show Gl _ _ _ _ (T241.setTop (mkF m 93 _ [(.int (((u2.toUInt32 >>> ((6 : Int32) &&& 31).toUInt32).toInt32) &&& (7 : Int32)))]))
      refine Gl.go ?_ (fun t k => XS.iloadN X241.here hx rfl (hb hby at_93) rfl k)
      show Gl _ _ _ _ (T241.setTop (mkF m 94 #[.val (.int u0), .val (.int u1), .val (.int u2), .val (.int (Int32.ofNat n)), .val (.int (1 : Int32)), .val (.int (0 : Int32)), .val (.ref ns), .val (.int (Int32.ofNat kx1)), .val (.int (Int32.ofNat ky1)), .val (.int (0 : Int32)), .val (.int (0 : Int32)), .unset, .unset] [(.int (Int32.ofNat n)), (.int (((u2.toUInt32 >>> ((6 : Int32) &&& 31).toUInt32).toInt32) &&& (7 : Int32)))]))
      refine Gl.go ?_ (fun t k => iremM X241 hx rfl (hb hby at_94) rfl (own_nzn hn1 hn5) k)
      show Gl _ _ _ _ (T241.setTop (mkF m 95 #[.val (.int u0), .val (.int u1), .val (.int u2), .val (.int (Int32.ofNat n)), .val (.int (1 : Int32)), .val (.int (0 : Int32)), .val (.ref ns), .val (.int (Int32.ofNat kx1)), .val (.int (Int32.ofNat ky1)), .val (.int (0 : Int32)), .val (.int (0 : Int32)), .unset, .unset] [(.int ((((u2.toUInt32 >>> ((6 : Int32) &&& 31).toUInt32).toInt32) &&& (7 : Int32)) % (Int32.ofNat n)))]))
      obtain ⟨kx2, l_kx2, q_kx2⟩ := own_rem7 ((u2.toUInt32 >>> ((6 : Int32) &&& 31).toUInt32).toInt32) (Int32.ofNat n) n hn1 (own_ton hn5)
      rw [q_kx2]
      refine Gl.go ?_ (fun t k => XS.istore X241.here hx rfl (hb hby at_95) rfl (l' := #[.val (.int u0), .val (.int u1), .val (.int u2), .val (.int (Int32.ofNat n)), .val (.int (1 : Int32)), .val (.int (0 : Int32)), .val (.ref ns), .val (.int (Int32.ofNat kx1)), .val (.int (Int32.ofNat ky1)), .val (.int (Int32.ofNat kx2)), .val (.int (0 : Int32)), .unset, .unset]) rfl k)
      show Gl _ _ _ _ (T241.setTop (mkF m 97 _ []))
      refine Gl.go ?_ (fun t k => XS.iloadN X241.here hx rfl (hb hby at_97) rfl k)
      show Gl _ _ _ _ (T241.setTop (mkF m 98 _ [(.int u2)]))
      refine Gl.go ?_ (fun t k => XS.bipush X241.here hx rfl (hb hby at_98) k)
      show Gl _ _ _ _ (T241.setTop (mkF m 100 _ [(.int (9 : Int32)), (.int u2)]))
      refine Gl.go ?_ (fun t k => XS.iushr X241.here hx rfl (hb hby at_100) rfl k)
      show Gl _ _ _ _ (T241.setTop (mkF m 101 _ [(.int ((u2.toUInt32 >>> ((9 : Int32) &&& 31).toUInt32).toInt32))]))
      refine Gl.go ?_ (fun t k => XS.bipush X241.here hx rfl (hb hby at_101) k)
      show Gl _ _ _ _ (T241.setTop (mkF m 103 _ [(.int (7 : Int32)), (.int ((u2.toUInt32 >>> ((9 : Int32) &&& 31).toUInt32).toInt32))]))
      refine Gl.go ?_ (fun t k => XS.iand X241.here hx rfl (hb hby at_103) rfl k)
      show Gl _ _ _ _ (T241.setTop (mkF m 104 _ [(.int (((u2.toUInt32 >>> ((9 : Int32) &&& 31).toUInt32).toInt32) &&& (7 : Int32)))]))
      refine Gl.go ?_ (fun t k => XS.iloadN X241.here hx rfl (hb hby at_104) rfl k)
      show Gl _ _ _ _ (T241.setTop (mkF m 105 #[.val (.int u0), .val (.int u1), .val (.int u2), .val (.int (Int32.ofNat n)), .val (.int (1 : Int32)), .val (.int (0 : Int32)), .val (.ref ns), .val (.int (Int32.ofNat kx1)), .val (.int (Int32.ofNat ky1)), .val (.int (Int32.ofNat kx2)), .val (.int (0 : Int32)), .unset, .unset] [(.int (Int32.ofNat n)), (.int (((u2.toUInt32 >>> ((9 : Int32) &&& 31).toUInt32).toInt32) &&& (7 : Int32)))]))
      refine Gl.go ?_ (fun t k => iremM X241 hx rfl (hb hby at_105) rfl (own_nzn hn1 hn5) k)
      show Gl _ _ _ _ (T241.setTop (mkF m 106 #[.val (.int u0), .val (.int u1), .val (.int u2), .val (.int (Int32.ofNat n)), .val (.int (1 : Int32)), .val (.int (0 : Int32)), .val (.ref ns), .val (.int (Int32.ofNat kx1)), .val (.int (Int32.ofNat ky1)), .val (.int (Int32.ofNat kx2)), .val (.int (0 : Int32)), .unset, .unset] [(.int ((((u2.toUInt32 >>> ((9 : Int32) &&& 31).toUInt32).toInt32) &&& (7 : Int32)) % (Int32.ofNat n)))]))
      obtain ⟨ky2, l_ky2, q_ky2⟩ := own_rem7 ((u2.toUInt32 >>> ((9 : Int32) &&& 31).toUInt32).toInt32) (Int32.ofNat n) n hn1 (own_ton hn5)
      rw [q_ky2]
      refine Gl.go ?_ (fun t k => XS.istore X241.here hx rfl (hb hby at_106) rfl (l' := #[.val (.int u0), .val (.int u1), .val (.int u2), .val (.int (Int32.ofNat n)), .val (.int (1 : Int32)), .val (.int (0 : Int32)), .val (.ref ns), .val (.int (Int32.ofNat kx1)), .val (.int (Int32.ofNat ky1)), .val (.int (Int32.ofNat kx2)), .val (.int (Int32.ofNat ky2)), .unset, .unset]) rfl k)
      show Gl _ _ _ _ (T241.setTop (mkF m 108 #[.val (.int u0), .val (.int u1), .val (.int u2), .val (.int (Int32.ofNat n)), .val (.int (1 : Int32)), .val (.int (0 : Int32)), .val (.ref ns), .val (.int (Int32.ofNat kx1)), .val (.int (Int32.ofNat ky1)), .val (.int (Int32.ofNat kx2)), .val (.int (Int32.ofNat ky2)), .unset, .unset] []))
      obtain ⟨T242, h242, X242, e242, E242, A242, D242, -, st242⟩ := newO X241 hx hZ hown (hw _ (List.mem_of_getElem? (i := 17) rfl)) (hw _ (List.mem_of_getElem? (i := 18) rfl)) (hw _ (List.mem_of_getElem? (i := 19) rfl)) rfl (g := (mkF m 108 #[.val (.int u0), .val (.int u1), .val (.int u2), .val (.int (Int32.ofNat n)), .val (.int (1 : Int32)), .val (.int (0 : Int32)), .val (.ref ns), .val (.int (Int32.ofNat kx1)), .val (.int (Int32.ofNat ky1)), .val (.int (Int32.ofNat kx2)), .val (.int (Int32.ofNat ky2)), .unset, .unset] [])) rfl (hb hby at_108) (by decide) (by decide)
      obtain ⟨b242, g242⟩ : ∃ z, z = T241.heap.size := ⟨_, rfl⟩
      rw [← g242] at A242 D242 st242
      have g_b242 : n0 ≤ b242 := Nat.le_trans Z0 (Nat.le_of_eq g242.symm)
      have sz_b242 : (T241.heap).size ≤ b242 := Nat.le_trans OLD.1 (Nat.le_of_eq g242.symm)
      have hi_b242 := Nat.le_trans hk (Nat.le_of_eq g242.symm)
      replace OLD := own_oext OLD E242
      replace hk := Nat.le_trans hk E242.1
      replace Z0 := Nat.le_trans Z0 E242.1
      have E_b242 := A242
      have F_names_b242 : Fld Z h242 b242 "com/example/grantline/grantline/engine/Actions" "names" "Ljava/util/List;" .null := D242 (Or.inr (hw _ (List.mem_of_getElem? (i := 76) rfl))) (ty := (.object "java/util/List")) (by decide)
      have F_implied_b242 : Fld Z h242 b242 "com/example/grantline/grantline/engine/Actions" "implied" "[I" .null := D242 (Or.inr (hw _ (List.mem_of_getElem? (i := 78) rfl))) (ty := (.array .int)) (by decide)
      refine Gl.go ?_ st242
      show Gl _ _ _ _ (T242.setTop (mkF m 111 _ [(.ref b242)]))
      refine Gl.go ?_ (fun t k => XS.dup X242.here hx rfl (hb hby at_111) rfl rfl k)
      show Gl _ _ _ _ (T242.setTop (mkF m 112 _ [(.ref b242), (.ref b242)]))
      refine Gl.go ?_ (fun t k => XS.aload X242.here hx rfl (hb hby at_112) rfl rfl k)
      show Gl _ _ _ _ (T242.setTop (mkF m 114 #[.val (.int u0), .val (.int u1), .val (.int u2), .val (.int (Int32.ofNat n)), .val (.int (1 : Int32)), .val (.int (0 : Int32)), .val (.ref ns), .val (.int (Int32.ofNat kx1)), .val (.int (Int32.ofNat ky1)), .val (.int (Int32.ofNat kx2)), .val (.int (Int32.ofNat ky2)), .unset, .unset] [(.ref ns), (.ref b242), (.ref b242)]))
      obtain ⟨_, _, ⟨T243, L243, k243, n243⟩, -, X243, ⟨Lc243, hQ243, l243, y243, z243⟩, st243⟩ := X242.specialBack hx (y := (⟨"com/example/grantline/grantline/engine/Actions", "<init>", "([Ljava/lang/String;)V"⟩ : MethodName)) rfl hown (mvT hZ (hw _ (List.mem_of_getElem? (i := 20) rfl))) (mvT hZ (hw _ (List.mem_of_getElem? (i := 21) rfl))) (mvT hZ (hw _ (List.mem_of_getElem? (i := 22) rfl))) (by decide) (backOf (W := 1) (rm_ai1 l Z a0 hw [] n hn5 b242 ns A em el _ _ h242 n0 Z0 E_b242 g_b242 F_names_b242 F_implied_b242 (Nat.ne_of_lt (Nat.lt_of_lt_of_le hNS.lt sz_b242)) (hNS.ext OLD) (fun i q => ((hStr i q).1).ext OLD) (S_EM.ext OLD) (S_EL.ext OLD)) hZ (hw _ (List.mem_of_getElem? (i := 22) rfl)) (hw _ (List.mem_of_getElem? (i := 19) rfl)) (by decide) (by decide)) (g := (mkF m 114 #[.val (.int u0), .val (.int u1), .val (.int u2), .val (.int (Int32.ofNat n)), .val (.int (1 : Int32)), .val (.int (0 : Int32)), .val (.ref ns), .val (.int (Int32.ofNat kx1)), .val (.int (Int32.ofNat ky1)), .val (.int (Int32.ofNat kx2)), .val (.int (Int32.ofNat ky2)), .unset, .unset] [(.ref ns), (.ref b242), (.ref b242)])) rfl (by rw [hml]; rfl) (Steps.refl _) (a := b242) (argsL := [(.ref ns)]) (rest := [(.ref b242)]) (lenOf pd_13 rfl) rfl (by show 2 * 0 + _ ≤ _; exact Nat.le_of_eq rfl) (hb hby at_114) (fun _ _ => ⟨rfl, e242, (by decide : 12 + 3 ≤ _), (by decide : 47 + 12 ≤ _)⟩)
      dsimp only [Pt.U, Pt.locs, Pt.cells, Pt.slots] at X243 l243 y243 z243 st243 hQ243
      rw [l243, y243, z243] at X243
      clear l243 y243 z243
      obtain ⟨N243q, rfl, K243, ec243, ls243, ia243, fn243, fi243, lk243, iA243⟩ := hQ243
      replace NF := Fr.app NF N243q
      replace OLD := own_okeep OLD K243 (fun y hy => by cases List.mem_singleton.mp hy; exact sz_b242)
      replace hk := Nat.le_trans hk K243.1
      replace Z0 := Nat.le_trans Z0 K243.1
      replace S_CS := S_CS.ext OLD
      replace S_EM := S_EM.ext OLD
      replace S_EL := S_EL.ext OLD
      replace hNS := hNS.ext OLD
      replace hStr : ∀ i, i < n → StrIs Z T243.heap (A i) (own_ch i) := fun i q => (hStr i q).ext OLD
      replace OLD : Ext T243.heap T243.heap := own_erefl _
      have E_act := ec243
      have F_nm := fn243
      have F_im := fi243
      have hLK := lk243
      have hIA := iA243
      have hlx : (own_bits n).length = n := own_bl hn5
      refine Gl.tr ?_ st243
      show Gl _ _ _ _ (T243.setTop (mkF m 117 #[.val (.int u0), .val (.int u1), .val (.int u2), .val (.int (Int32.ofNat n)), .val (.int (1 : Int32)), .val (.int (0 : Int32)), .val (.ref ns), .val (.int (Int32.ofNat kx1)), .val (.int (Int32.ofNat ky1)), .val (.int (Int32.ofNat kx2)), .val (.int (Int32.ofNat ky2)), .unset, .unset] [(.ref b242)]))
      refine Gl.go ?_ (fun t k => XS.astore X243.here hx rfl (hb hby at_117) rfl rfl (l' := #[.val (.int u0), .val (.int u1), .val (.int u2), .val (.int (Int32.ofNat n)), .val (.int (1 : Int32)), .val (.int (0 : Int32)), .val (.ref ns), .val (.int (Int32.ofNat kx1)), .val (.int (Int32.ofNat ky1)), .val (.int (Int32.ofNat kx2)), .val (.int (Int32.ofNat ky2)), .val (.ref b242), .unset]) rfl k)
      show Gl _ _ _ _ (T243.setTop (mkF m 119 _ []))
      refine Gl.go ?_ (fun t k => XS.iload X243.here hx rfl (hb hby at_119) rfl k)
      show Gl _ _ _ _ (T243.setTop (mkF m 121 _ [(.int (1 : Int32))]))
      refine Gl.go ?_ (fun t k => XS.ifNo X243.here hx rfl (hb hby at_121) rfl ((if0 _ _).trans (feq (by decide : ¬ ((1 : Int32) = (0 : Int32)))).1) k)
      show Gl _ _ _ _ (T243.setTop (mkF m 124 _ []))
      refine Gl.go ?_ (fun t k => XS.aload X243.here hx rfl (hb hby at_124) rfl rfl k)
      show Gl _ _ _ _ (T243.setTop (mkF m 126 _ [(.ref b242)]))
      refine Gl.go ?_ (fun t k => XS.aload X243.here hx rfl (hb hby at_126) rfl rfl k)
      show Gl _ _ _ _ (T243.setTop (mkF m 128 _ [(.ref ns), (.ref b242)]))
      refine Gl.go ?_ (fun t k => XS.iload X243.here hx rfl (hb hby at_128) rfl k)
      show Gl _ _ _ _ (T243.setTop (mkF m 130 #[.val (.int u0), .val (.int u1), .val (.int u2), .val (.int (Int32.ofNat n)), .val (.int (1 : Int32)), .val (.int (0 : Int32)), .val (.ref ns), .val (.int (Int32.ofNat kx1)), .val (.int (Int32.ofNat ky1)), .val (.int (Int32.ofNat kx2)), .val (.int (Int32.ofNat ky2)), .val (.ref b242), .unset] [(.int (Int32.ofNat kx1)), (.ref ns), (.ref b242)]))
      have rd := RA.rd (hNS.ext OLD) rfl X243 hx hZ rfl (own_lo l_kx1 hn5) (own_hi l_kx1 hn5) (g := (mkF m 130 #[.val (.int u0), .val (.int u1), .val (.int u2), .val (.int (Int32.ofNat n)), .val (.int (1 : Int32)), .val (.int (0 : Int32)), .val (.ref ns), .val (.int (Int32.ofNat kx1)), .val (.int (Int32.ofNat ky1)), .val (.int (Int32.ofNat kx2)), .val (.int (Int32.ofNat ky2)), .val (.ref b242), .unset] [(.int (Int32.ofNat kx1)), (.ref ns), (.ref b242)])) rfl rfl (hb hby at_130)
      rw [own_tn (Nat.le_trans (Nat.le_of_lt l_kx1) hn5)] at rd
      refine Gl.go ?_ rd
      clear rd
      show Gl _ _ _ _ (T243.setTop (mkF m 131 _ [(.ref (A kx1)), (.ref b242)]))
      refine Gl.go ?_ (fun t k => XS.iconst X243.here hx rfl (hb hby at_131) k)
      show Gl _ _ _ _ (T243.setTop (mkF m 132 #[.val (.int u0), .val (.int u1), .val (.int u2), .val (.int (Int32.ofNat n)), .val (.int (1 : Int32)), .val (.int (0 : Int32)), .val (.ref ns), .val (.int (Int32.ofNat kx1)), .val (.int (Int32.ofNat ky1)), .val (.int (Int32.ofNat kx2)), .val (.int (Int32.ofNat ky2)), .val (.ref b242), .unset] [(.int (1 : Int32)), (.ref (A kx1)), (.ref b242)]))
      obtain ⟨T244, h244, k244, X244, e244, E244, A244, O244, st244⟩ := newR X243 hx hZ hown (hw _ (List.mem_of_getElem? (i := 4) rfl)) (hw _ (List.mem_of_getElem? (i := 5) rfl)) rfl (g := (mkF m 132 #[.val (.int u0), .val (.int u1), .val (.int u2), .val (.int (Int32.ofNat n)), .val (.int (1 : Int32)), .val (.int (0 : Int32)), .val (.ref ns), .val (.int (Int32.ofNat kx1)), .val (.int (Int32.ofNat ky1)), .val (.int (Int32.ofNat kx2)), .val (.int (Int32.ofNat ky2)), .val (.ref b242), .unset] [(.int (1 : Int32)), (.ref (A kx1)), (.ref b242)])) rfl (hb hby at_132) rfl (by decide) (cap := 1) (by decide) (by decide) (by decide) (by decide)
      obtain ⟨b244, g244⟩ : ∃ z, z = T243.heap.size := ⟨_, rfl⟩
      rw [← g244] at A244 st244
      have g_b244 : n0 ≤ b244 := Nat.le_trans Z0 (Nat.le_of_eq g244.symm)
      have sz_b244 : (T243.heap).size ≤ b244 := Nat.le_trans OLD.1 (Nat.le_of_eq g244.symm)
      have hi_b244 := Nat.le_trans hk (Nat.le_of_eq g244.symm)
      replace OLD := own_oext OLD E244
      replace hk := Nat.le_trans hk E244.1
      replace Z0 := Nat.le_trans Z0 E244.1
      have V_b244 : Arv Z h244 b244 k244 (.object "java/lang/String") (1 : Int32) [.null] .null := (Arv.new A244 (by decide)).pad (pad_rep [] .null 1)
      refine Gl.go ?_ st244
      show Gl _ _ _ _ (T244.setTop (mkF m 135 _ [(.ref b244), (.ref (A kx1)), (.ref b242)]))
      refine Gl.go ?_ (fun t k => XS.dup X244.here hx rfl (hb hby at_135) rfl rfl k)
      show Gl _ _ _ _ (T244.setTop (mkF m 136 _ [(.ref b244), (.ref b244), (.ref (A kx1)), (.ref b242)]))
      refine Gl.go ?_ (fun t k => XS.iconst X244.here hx rfl (hb hby at_136) k)
      show Gl _ _ _ _ (T244.setTop (mkF m 137 _ [(.int (0 : Int32)), (.ref b244), (.ref b244), (.ref (A kx1)), (.ref b242)]))
      refine Gl.go ?_ (fun t k => XS.aload X244.here hx rfl (hb hby at_137) rfl rfl k)
      show Gl _ _ _ _ (T244.setTop (mkF m 139 _ [(.ref ns), (.int (0 : Int32)), (.ref b244), (.ref b244), (.ref (A kx1)), (.ref b242)]))
      refine Gl.go ?_ (fun t k => XS.iload X244.here hx rfl (hb hby at_139) rfl k)
      show Gl _ _ _ _ (T244.setTop (mkF m 141 #[.val (.int u0), .val (.int u1), .val (.int u2), .val (.int (Int32.ofNat n)), .val (.int (1 : Int32)), .val (.int (0 : Int32)), .val (.ref ns), .val (.int (Int32.ofNat kx1)), .val (.int (Int32.ofNat ky1)), .val (.int (Int32.ofNat kx2)), .val (.int (Int32.ofNat ky2)), .val (.ref b242), .unset] [(.int (Int32.ofNat ky1)), (.ref ns), (.int (0 : Int32)), (.ref b244), (.ref b244), (.ref (A kx1)), (.ref b242)]))
      have rd := RA.rd (hNS.ext OLD) rfl X244 hx hZ e244 (own_lo l_ky1 hn5) (own_hi l_ky1 hn5) (g := (mkF m 141 #[.val (.int u0), .val (.int u1), .val (.int u2), .val (.int (Int32.ofNat n)), .val (.int (1 : Int32)), .val (.int (0 : Int32)), .val (.ref ns), .val (.int (Int32.ofNat kx1)), .val (.int (Int32.ofNat ky1)), .val (.int (Int32.ofNat kx2)), .val (.int (Int32.ofNat ky2)), .val (.ref b242), .unset] [(.int (Int32.ofNat ky1)), (.ref ns), (.int (0 : Int32)), (.ref b244), (.ref b244), (.ref (A kx1)), (.ref b242)])) rfl rfl (hb hby at_141)
      rw [own_tn (Nat.le_trans (Nat.le_of_lt l_ky1) hn5)] at rd
      refine Gl.go ?_ rd
      clear rd
      show Gl _ _ _ _ (T244.setTop (mkF m 142 #[.val (.int u0), .val (.int u1), .val (.int u2), .val (.int (Int32.ofNat n)), .val (.int (1 : Int32)), .val (.int (0 : Int32)), .val (.ref ns), .val (.int (Int32.ofNat kx1)), .val (.int (Int32.ofNat ky1)), .val (.int (Int32.ofNat kx2)), .val (.int (Int32.ofNat ky2)), .val (.ref b242), .unset] [(.ref (A ky1)), (.int (0 : Int32)), (.ref b244), (.ref b244), (.ref (A kx1)), (.ref b242)]))
      obtain ⟨cl245, Ar245, q245, S245, N245, Hh245, G245⟩ := V_b244
      obtain ⟨T245, h245, X245, e245, W245, st245⟩ := stR X244 hx hZ e244 Ar245 (j := (0 : Int32)) (inb_of S245 ⟨by decide, by decide⟩) rfl (Sto.ofV Ar245 q245 O244 (Ins.self (((hStr ky1 l_ky1).1).ext OLD))) (g := (mkF m 142 #[.val (.int u0), .val (.int u1), .val (.int u2), .val (.int (Int32.ofNat n)), .val (.int (1 : Int32)), .val (.int (0 : Int32)), .val (.ref ns), .val (.int (Int32.ofNat kx1)), .val (.int (Int32.ofNat ky1)), .val (.int (Int32.ofNat kx2)), .val (.int (Int32.ofNat ky2)), .val (.ref b242), .unset] [(.ref (A ky1)), (.int (0 : Int32)), (.ref b244), (.ref b244), (.ref (A kx1)), (.ref b242)])) rfl rfl (hb hby at_142)
      replace OLD := own_owr OLD W245 sz_b244
      replace hk := Nat.le_trans hk (Keep.of_wr W245).1
      replace Z0 := Nat.le_trans Z0 (Keep.of_wr W245).1
      have V_b244 : Arv Z h245 b244 k244 (.object "java/lang/String") (1 : Int32) [(.ref (A ky1))] .null := Arv.set Ar245 q245 S245 N245 Hh245 G245 rfl W245 0 rfl (Nat.le_of_ble_eq_true rfl)
      clear Hh245 G245 N245 S245 q245 W245
      clear Ar245
      clear cl245
      replace NF := Fr.snoc X245 NF g_b244
      refine Gl.go ?_ st245
      show Gl _ _ _ _ (T245.setTop (mkF m 143 #[.val (.int u0), .val (.int u1), .val (.int u2), .val (.int (Int32.ofNat n)), .val (.int (1 : Int32)), .val (.int (0 : Int32)), .val (.ref ns), .val (.int (Int32.ofNat kx1)), .val (.int (Int32.ofNat ky1)), .val (.int (Int32.ofNat kx2)), .val (.int (Int32.ofNat ky2)), .val (.ref b242), .unset] [(.ref b244), (.ref (A kx1)), (.ref b242)]))
      obtain ⟨cq246, kq246, q246a, q246b, q246c⟩ := isOf hZ e245 (E_act.ext OLD)
      obtain ⟨_, _, ⟨T246, L246, k246, n246⟩, -, X246, ⟨Lc246, hQ246, l246, y246, z246⟩, st246⟩ := X245.virtualBack hx (y := (⟨"com/example/grantline/grantline/engine/Actions", "withImplied", "(Ljava/lang/String;[Ljava/lang/String;)Lcom/example/grantline/grantline/engine/Actions;"⟩ : MethodName)) (z := (⟨"com/example/grantline/grantline/engine/Actions", "withImplied", "(Ljava/lang/String;[Ljava/lang/String;)Lcom/example/grantline/grantline/engine/Actions;"⟩ : MethodName)) hown (mvT hZ (hw _ (List.mem_of_getElem? (i := 85) rfl))) (mvT hZ (hw _ (List.mem_of_getElem? (i := 86) rfl))) (notFace_of_selects (args := #[]) (mvT hZ (hw _ (List.mem_of_getElem? (i := 88) rfl)))) (mvT hZ (hw _ (List.mem_of_getElem? (i := 88) rfl))) (mvT hZ (hw _ (List.mem_of_getElem? (i := 87) rfl))) (by decide) (backOf (W := 0) (rm_wi l Z a0 hw [] b242 b244 A n kx1 ky1 (own_bits n) cs em ls243 ia243 h245 n0 Z0 (E_act.ext OLD) (F_nm.ext OLD) (F_im.ext OLD) (hIA.ext OLD) hlx hn5 (hLK.ext OLD) (RA.of V_b244 1 rfl (own_lt1 rfl)) (S_EM.ext OLD) hem (fun i q => (hStr i q).ext OLD) (S_CS.ext OLD) hcs l_kx1 l_ky1) hZ (hw _ (List.mem_of_getElem? (i := 89) rfl)) (hw _ (List.mem_of_getElem? (i := 19) rfl)) (by decide) (by decide)) q246a q246c (g := (mkF m 143 #[.val (.int u0), .val (.int u1), .val (.int u2), .val (.int (Int32.ofNat n)), .val (.int (1 : Int32)), .val (.int (0 : Int32)), .val (.ref ns), .val (.int (Int32.ofNat kx1)), .val (.int (Int32.ofNat ky1)), .val (.int (Int32.ofNat kx2)), .val (.int (Int32.ofNat ky2)), .val (.ref b242), .unset] [(.ref b244), (.ref (A kx1)), (.ref b242)])) rfl (by rw [hml]; rfl) (Steps.refl _) (argsL := [(.ref (A kx1)), (.ref b244)]) (rest := []) (lenOf pd_15 rfl) rfl (by show 2 * 0 + _ ≤ _; exact Nat.le_of_eq rfl) (hb hby at_143) (fun _ _ => ⟨rfl, e245, (by decide : 16 + 2 ≤ _), (by decide : 60 + 7 ≤ _)⟩)
      dsimp only [Pt.U, Pt.locs, Pt.cells, Pt.slots] at X246 l246 y246 z246 st246 hQ246
      rw [l246, y246, z246] at X246
      clear l246 y246 z246
      obtain ⟨N246q, r246, ia246, rfl, EX246, ec246, fn246, fi246, iA246⟩ := hQ246
      replace NF := Fr.app NF N246q
      replace OLD := own_oext OLD EX246
      replace hk := Nat.le_trans hk EX246.1
      replace Z0 := Nat.le_trans Z0 EX246.1
      replace S_CS := S_CS.ext OLD
      replace S_EM := S_EM.ext OLD
      replace S_EL := S_EL.ext OLD
      replace hNS := hNS.ext OLD
      replace hLK := hLK.ext OLD
      replace hStr : ∀ i, i < n → StrIs Z T246.heap (A i) (own_ch i) := fun i q => (hStr i q).ext OLD
      replace OLD : Ext T246.heap T246.heap := own_erefl _
      replace E_act := ec246
      replace F_nm := fn246
      replace F_im := fi246
      replace hIA := iA246
      have hl246 : (own_upd (own_bits n) kx1 ky1).length = n := (own_lenu _ _ _).trans hlx
      refine Gl.tr ?_ st246
      show Gl _ _ _ _ (T246.setTop (mkF m 146 #[.val (.int u0), .val (.int u1), .val (.int u2), .val (.int (Int32.ofNat n)), .val (.int (1 : Int32)), .val (.int (0 : Int32)), .val (.ref ns), .val (.int (Int32.ofNat kx1)), .val (.int (Int32.ofNat ky1)), .val (.int (Int32.ofNat kx2)), .val (.int (Int32.ofNat ky2)), .val (.ref b242), .unset] [(.ref r246)]))
      refine Gl.go ?_ (fun t k => XS.astore X246.here hx rfl (hb hby at_146) rfl rfl (l' := #[.val (.int u0), .val (.int u1), .val (.int u2), .val (.int (Int32.ofNat n)), .val (.int (1 : Int32)), .val (.int (0 : Int32)), .val (.ref ns), .val (.int (Int32.ofNat kx1)), .val (.int (Int32.ofNat ky1)), .val (.int (Int32.ofNat kx2)), .val (.int (Int32.ofNat ky2)), .val (.ref r246), .unset]) rfl k)
      show Gl _ _ _ _ (T246.setTop (mkF m 148 _ []))
      refine Gl.go ?_ (fun t k => XS.iload X246.here hx rfl (hb hby at_148) rfl k)
      show Gl _ _ _ _ (T246.setTop (mkF m 150 _ [(.int (0 : Int32))]))
      refine Gl.go ?_ (fun t k => XS.ifYes X246.here hx rfl (pc0 := 150) (pc' := 177) rfl (hb hby at_150) rfl ((if0 _ _).trans (teq (by decide : (0 : Int32) = (0 : Int32))).1) (by decide) (by decide) k)
      show Gl _ _ _ _ (T246.setTop (mkF m 177 _ []))
      refine Gl.go ?_ (fun t k => XS.iloadN X246.here hx rfl (hb hby at_177) rfl k)
      show Gl _ _ _ _ (T246.setTop (mkF m 178 _ [(.int u0)]))
      refine Gl.go ?_ (fun t k => XS.iconst X246.here hx rfl (hb hby at_178) k)
      show Gl _ _ _ _ (T246.setTop (mkF m 179 _ [(.int (1 : Int32)), (.int u0)]))
      refine Gl.go ?_ (fun t k => XS.iloadN X246.here hx rfl (hb hby at_179) rfl k)
      show Gl _ _ _ _ (T246.setTop (mkF m 180 _ [(.int (Int32.ofNat n)), (.int (1 : Int32)), (.int u0)]))
      refine Gl.go ?_ (fun t k => XS.ishl X246.here hx rfl (hb hby at_180) rfl k)
      show Gl _ _ _ _ (T246.setTop (mkF m 181 _ [(.int ((1 : Int32) <<< ((Int32.ofNat n) &&& 31))), (.int u0)]))
      refine Gl.go ?_ (fun t k => XS.iconst X246.here hx rfl (hb hby at_181) k)
      show Gl _ _ _ _ (T246.setTop (mkF m 182 _ [(.int (1 : Int32)), (.int ((1 : Int32) <<< ((Int32.ofNat n) &&& 31))), (.int u0)]))
      refine Gl.go ?_ (fun t k => XS.isub X246.here hx rfl (hb hby at_182) rfl k)
      show Gl _ _ _ _ (T246.setTop (mkF m 183 _ [(.int (((1 : Int32) <<< ((Int32.ofNat n) &&& 31)) - (1 : Int32))), (.int u0)]))
      refine Gl.go ?_ (fun t k => XS.iand X246.here hx rfl (hb hby at_183) rfl k)
      show Gl _ _ _ _ (T246.setTop (mkF m 184 #[.val (.int u0), .val (.int u1), .val (.int u2), .val (.int (Int32.ofNat n)), .val (.int (1 : Int32)), .val (.int (0 : Int32)), .val (.ref ns), .val (.int (Int32.ofNat kx1)), .val (.int (Int32.ofNat ky1)), .val (.int (Int32.ofNat kx2)), .val (.int (Int32.ofNat ky2)), .val (.ref r246), .unset] [(.int (u0 &&& (((1 : Int32) <<< ((Int32.ofNat n) &&& 31)) - (1 : Int32))))]))
      refine Gl.go ?_ (fun t k => XS.istore X246.here hx rfl (hb hby at_184) rfl (l' := #[.val (.int u0), .val (.int u1), .val (.int u2), .val (.int (Int32.ofNat n)), .val (.int (1 : Int32)), .val (.int (0 : Int32)), .val (.ref ns), .val (.int (Int32.ofNat kx1)), .val (.int (Int32.ofNat ky1)), .val (.int (Int32.ofNat kx2)), .val (.int (Int32.ofNat ky2)), .val (.ref r246), .val (.int (u0 &&& (((1 : Int32) <<< ((Int32.ofNat n) &&& 31)) - (1 : Int32))))]) rfl k)
      show Gl _ _ _ _ (T246.setTop (mkF m 186 _ []))
      refine Gl.go ?_ (fun t k => XS.iload X246.here hx rfl (hb hby at_186) rfl k)
      show Gl _ _ _ _ (T246.setTop (mkF m 188 _ [(.int (1 : Int32))]))
      refine Gl.go ?_ (fun t k => XS.ifNo X246.here hx rfl (hb hby at_188) rfl ((if0 _ _).trans (feq (by decide : ¬ ((1 : Int32) = (0 : Int32)))).1) k)
      show Gl _ _ _ _ (T246.setTop (mkF m 191 _ []))
      refine Gl.go ?_ (fun t k => XS.iloadN X246.here hx rfl (hb hby at_191) rfl k)
      show Gl _ _ _ _ (T246.setTop (mkF m 192 _ [(.int u0)]))
      refine Gl.go ?_ (fun t k => XS.iconst X246.here hx rfl (hb hby at_192) k)
      show Gl _ _ _ _ (T246.setTop (mkF m 193 _ [(.int (1 : Int32)), (.int u0)]))
      refine Gl.go ?_ (fun t k => XS.iload X246.here hx rfl (hb hby at_193) rfl k)
      show Gl _ _ _ _ (T246.setTop (mkF m 195 _ [(.int (Int32.ofNat ky1)), (.int (1 : Int32)), (.int u0)]))
      refine Gl.go ?_ (fun t k => XS.ishl X246.here hx rfl (hb hby at_195) rfl k)
      show Gl _ _ _ _ (T246.setTop (mkF m 196 _ [(.int ((1 : Int32) <<< ((Int32.ofNat ky1) &&& 31))), (.int u0)]))
      refine Gl.go ?_ (fun t k => XS.iand X246.here hx rfl (hb hby at_196) rfl k)
      show Gl _ _ _ _ (T246.setTop (mkF m 197 _ [(.int (u0 &&& ((1 : Int32) <<< ((Int32.ofNat ky1) &&& 31))))]))
      by_cases hc247 : (u0 &&& ((1 : Int32) <<< ((Int32.ofNat ky1) &&& 31))) = (0 : Int32)
      · refine Gl.go ?_ (fun t k => XS.ifYes X246.here hx rfl (pc0 := 197) (pc' := 209) rfl (hb hby at_197) rfl ((if0 _ _).trans (teq hc247).1) (by decide) (by decide) k)
        show Gl _ _ _ _ (T246.setTop (mkF m 209 _ []))
        refine Gl.go ?_ (fun t k => XS.iload X246.here hx rfl (hb hby at_209) rfl k)
        show Gl _ _ _ _ (T246.setTop (mkF m 211 _ [(.int (0 : Int32))]))
        refine Gl.go ?_ (fun t k => XS.ifYes X246.here hx rfl (pc0 := 211) (pc' := 232) rfl (hb hby at_211) rfl ((if0 _ _).trans (teq (by decide : (0 : Int32) = (0 : Int32))).1) (by decide) (by decide) k)
        show Gl _ _ _ _ (T246.setTop (mkF m 232 _ []))
        refine Gl.go ?_ (fun t k => XS.aload X246.here hx rfl (hb hby at_232) rfl rfl k)
        show Gl _ _ _ _ (T246.setTop (mkF m 234 _ [(.ref r246)]))
        refine Gl.go ?_ (fun t k => XS.iloadN X246.here hx rfl (hb hby at_234) rfl k)
        show Gl _ _ _ _ (T246.setTop (mkF m 235 #[.val (.int u0), .val (.int u1), .val (.int u2), .val (.int (Int32.ofNat n)), .val (.int (1 : Int32)), .val (.int (0 : Int32)), .val (.ref ns), .val (.int (Int32.ofNat kx1)), .val (.int (Int32.ofNat ky1)), .val (.int (Int32.ofNat kx2)), .val (.int (Int32.ofNat ky2)), .val (.ref r246), .val (.int (u0 &&& (((1 : Int32) <<< ((Int32.ofNat n) &&& 31)) - (1 : Int32))))] [(.int u0), (.ref r246)]))
        obtain ⟨cq248, kq248, q248a, q248b, q248c⟩ := isOf hZ rfl (E_act.ext OLD)
        obtain ⟨_, _, ⟨T248, L248, k248, n248⟩, -, X248, ⟨Lc248, hQ248, l248, y248, z248⟩, st248⟩ := X246.virtualBack hx (y := (⟨"com/example/grantline/grantline/engine/Actions", "impliedMask", "(I)I"⟩ : MethodName)) (z := (⟨"com/example/grantline/grantline/engine/Actions", "impliedMask", "(I)I"⟩ : MethodName)) hown (mvT hZ (hw _ (List.mem_of_getElem? (i := 79) rfl))) (mvT hZ (hw _ (List.mem_of_getElem? (i := 80) rfl))) (notFace_of_selects (args := #[]) (mvT hZ (hw _ (List.mem_of_getElem? (i := 82) rfl)))) (mvT hZ (hw _ (List.mem_of_getElem? (i := 82) rfl))) (mvT hZ (hw _ (List.mem_of_getElem? (i := 81) rfl))) (by decide) (backOf (W := 0) (rm12 l Z a0 hw [] r246 u0 ia246 n (Int32.ofNat n) (nth (own_upd (own_bits n) kx1 ky1)) T246.heap (F_im.ext OLD) (IA.ba (hIA.ext OLD) n hl246 hn5) (own_ton hn5)) hZ (hw _ (List.mem_of_getElem? (i := 83) rfl)) (hw _ (List.mem_of_getElem? (i := 19) rfl)) (by decide) (by decide)) q248a q248c (g := (mkF m 235 #[.val (.int u0), .val (.int u1), .val (.int u2), .val (.int (Int32.ofNat n)), .val (.int (1 : Int32)), .val (.int (0 : Int32)), .val (.ref ns), .val (.int (Int32.ofNat kx1)), .val (.int (Int32.ofNat ky1)), .val (.int (Int32.ofNat kx2)), .val (.int (Int32.ofNat ky2)), .val (.ref r246), .val (.int (u0 &&& (((1 : Int32) <<< ((Int32.ofNat n) &&& 31)) - (1 : Int32))))] [(.int u0), (.ref r246)])) rfl (by rw [hml]; rfl) (Steps.refl _) (argsL := [(.int u0)]) (rest := []) (lenOf pd_14 rfl) rfl (by show 2 * 0 + _ ≤ _; exact Nat.le_of_eq rfl) (hb hby at_235) (fun _ _ => ⟨rfl, rfl, (by decide : 18 + 0 ≤ _), (by decide : 67 + 0 ≤ _)⟩)
        dsimp only [Pt.U, Pt.locs, Pt.cells, Pt.slots] at X248 l248 y248 z248 st248 hQ248
        rw [l248, y248, z248] at X248
        clear l248 y248 z248
        obtain ⟨rfl, rfl, e248⟩ := hQ248
        replace NF := Fr.app NF (Fr.nil n0)
        refine Gl.tr ?_ st248
        show Gl _ _ _ _ (T248.setTop (mkF m 238 _ [(.int (f_mask u0 n (nth (own_upd (own_bits n) kx1 ky1))))]))
        refine Gl.go ?_ (fun t k => XS.iload X248.here hx rfl (hb hby at_238) rfl k)
        show Gl _ _ _ _ (T248.setTop (mkF m 240 _ [(.int (u0 &&& (((1 : Int32) <<< ((Int32.ofNat n) &&& 31)) - (1 : Int32)))), (.int (f_mask u0 n (nth (own_upd (own_bits n) kx1 ky1))))]))
        refine Gl.go ?_ (fun t k => XS.icmpNo X248.here hx rfl (hb hby at_240) rfl (teq (((own_f1 u0 kx1 hlx hc247 l_ky1 hn5).trans (own_f0 u0 hn5)))).2 k)
        show Gl _ _ _ _ (T248.setTop (mkF m 243 _ []))
        refine Gl.go ?_ (fun t k => XS.iconst X248.here hx rfl (hb hby at_243) k)
        show Gl _ _ _ _ (T248.setTop (mkF m 244 _ [(.int (1 : Int32))]))
        refine Gl.go ?_ (fun t k => XS.goto X248.here hx rfl (pc0 := 244) (pc' := 248) rfl (hb hby at_244) (by decide) (by decide) k)
        show Gl _ _ _ _ (T248.setTop (mkF m 248 _ [(.int (1 : Int32))]))
        obtain ⟨fs, hr, hrun, hended, -, hW, hpp, hsame⟩ := Stand.leaveW (s := s) (vm₁ := T241.vm) X248 hS (by rw [e248]; exact hk) (v := some (.int (1 : Int32))) (fun h => by rw [Bd.returns] at h; cases h) (BodyLoose.notSynchronized Bd)
        exact Gl.mk ⟨_, _, retN X248 hx (t := .boolean) Bd.returns (by simp) (hb hby at_248) hr, hrun, hended, _, _, rfl, ⟨rfl, NF⟩, ⟨_, rfl⟩, hW, hpp, hsame.mono (by decide) (by decide)⟩
      · refine Gl.go ?_ (fun t k => XS.ifNo X246.here hx rfl (hb hby at_197) rfl ((if0 _ _).trans (feq hc247).1) k)
        show Gl _ _ _ _ (T246.setTop (mkF m 200 _ []))
        refine Gl.go ?_ (fun t k => XS.iload X246.here hx rfl (hb hby at_200) rfl k)
        show Gl _ _ _ _ (T246.setTop (mkF m 202 _ [(.int (u0 &&& (((1 : Int32) <<< ((Int32.ofNat n) &&& 31)) - (1 : Int32))))]))
        refine Gl.go ?_ (fun t k => XS.iconst X246.here hx rfl (hb hby at_202) k)
        show Gl _ _ _ _ (T246.setTop (mkF m 203 _ [(.int (1 : Int32)), (.int (u0 &&& (((1 : Int32) <<< ((Int32.ofNat n) &&& 31)) - (1 : Int32))))]))
        refine Gl.go ?_ (fun t k => XS.iload X246.here hx rfl (hb hby at_203) rfl k)
        show Gl _ _ _ _ (T246.setTop (mkF m 205 _ [(.int (Int32.ofNat kx1)), (.int (1 : Int32)), (.int (u0 &&& (((1 : Int32) <<< ((Int32.ofNat n) &&& 31)) - (1 : Int32))))]))
        refine Gl.go ?_ (fun t k => XS.ishl X246.here hx rfl (hb hby at_205) rfl k)
        show Gl _ _ _ _ (T246.setTop (mkF m 206 _ [(.int ((1 : Int32) <<< ((Int32.ofNat kx1) &&& 31))), (.int (u0 &&& (((1 : Int32) <<< ((Int32.ofNat n) &&& 31)) - (1 : Int32))))]))
        refine Gl.go ?_ (fun t k => XS.ior X246.here hx rfl (hb hby at_206) rfl k)
        show Gl _ _ _ _ (T246.setTop (mkF m 207 #[.val (.int u0), .val (.int u1), .val (.int u2), .val (.int (Int32.ofNat n)), .val (.int (1 : Int32)), .val (.int (0 : Int32)), .val (.ref ns), .val (.int (Int32.ofNat kx1)), .val (.int (Int32.ofNat ky1)), .val (.int (Int32.ofNat kx2)), .val (.int (Int32.ofNat ky2)), .val (.ref r246), .val (.int (u0 &&& (((1 : Int32) <<< ((Int32.ofNat n) &&& 31)) - (1 : Int32))))] [(.int ((u0 &&& (((1 : Int32) <<< ((Int32.ofNat n) &&& 31)) - (1 : Int32))) ||| ((1 : Int32) <<< ((Int32.ofNat kx1) &&& 31))))]))
        refine Gl.go ?_ (fun t k => XS.istore X246.here hx rfl (hb hby at_207) rfl (l' := #[.val (.int u0), .val (.int u1), .val (.int u2), .val (.int (Int32.ofNat n)), .val (.int (1 : Int32)), .val (.int (0 : Int32)), .val (.ref ns), .val (.int (Int32.ofNat kx1)), .val (.int (Int32.ofNat ky1)), .val (.int (Int32.ofNat kx2)), .val (.int (Int32.ofNat ky2)), .val (.ref r246), .val (.int ((u0 &&& (((1 : Int32) <<< ((Int32.ofNat n) &&& 31)) - (1 : Int32))) ||| ((1 : Int32) <<< ((Int32.ofNat kx1) &&& 31))))]) rfl k)
        show Gl _ _ _ _ (T246.setTop (mkF m 209 _ []))
        refine Gl.go ?_ (fun t k => XS.iload X246.here hx rfl (hb hby at_209) rfl k)
        show Gl _ _ _ _ (T246.setTop (mkF m 211 _ [(.int (0 : Int32))]))
        refine Gl.go ?_ (fun t k => XS.ifYes X246.here hx rfl (pc0 := 211) (pc' := 232) rfl (hb hby at_211) rfl ((if0 _ _).trans (teq (by decide : (0 : Int32) = (0 : Int32))).1) (by decide) (by decide) k)
        show Gl _ _ _ _ (T246.setTop (mkF m 232 _ []))
        refine Gl.go ?_ (fun t k => XS.aload X246.here hx rfl (hb hby at_232) rfl rfl k)
        show Gl _ _ _ _ (T246.setTop (mkF m 234 _ [(.ref r246)]))
        refine Gl.go ?_ (fun t k => XS.iloadN X246.here hx rfl (hb hby at_234) rfl k)
        show Gl _ _ _ _ (T246.setTop (mkF m 235 #[.val (.int u0), .val (.int u1), .val (.int u2), .val (.int (Int32.ofNat n)), .val (.int (1 : Int32)), .val (.int (0 : Int32)), .val (.ref ns), .val (.int (Int32.ofNat kx1)), .val (.int (Int32.ofNat ky1)), .val (.int (Int32.ofNat kx2)), .val (.int (Int32.ofNat ky2)), .val (.ref r246), .val (.int ((u0 &&& (((1 : Int32) <<< ((Int32.ofNat n) &&& 31)) - (1 : Int32))) ||| ((1 : Int32) <<< ((Int32.ofNat kx1) &&& 31))))] [(.int u0), (.ref r246)]))
        obtain ⟨cq249, kq249, q249a, q249b, q249c⟩ := isOf hZ rfl (E_act.ext OLD)
        obtain ⟨_, _, ⟨T249, L249, k249, n249⟩, -, X249, ⟨Lc249, hQ249, l249, y249, z249⟩, st249⟩ := X246.virtualBack hx (y := (⟨"com/example/grantline/grantline/engine/Actions", "impliedMask", "(I)I"⟩ : MethodName)) (z := (⟨"com/example/grantline/grantline/engine/Actions", "impliedMask", "(I)I"⟩ : MethodName)) hown (mvT hZ (hw _ (List.mem_of_getElem? (i := 79) rfl))) (mvT hZ (hw _ (List.mem_of_getElem? (i := 80) rfl))) (notFace_of_selects (args := #[]) (mvT hZ (hw _ (List.mem_of_getElem? (i := 82) rfl)))) (mvT hZ (hw _ (List.mem_of_getElem? (i := 82) rfl))) (mvT hZ (hw _ (List.mem_of_getElem? (i := 81) rfl))) (by decide) (backOf (W := 0) (rm12 l Z a0 hw [] r246 u0 ia246 n (Int32.ofNat n) (nth (own_upd (own_bits n) kx1 ky1)) T246.heap (F_im.ext OLD) (IA.ba (hIA.ext OLD) n hl246 hn5) (own_ton hn5)) hZ (hw _ (List.mem_of_getElem? (i := 83) rfl)) (hw _ (List.mem_of_getElem? (i := 19) rfl)) (by decide) (by decide)) q249a q249c (g := (mkF m 235 #[.val (.int u0), .val (.int u1), .val (.int u2), .val (.int (Int32.ofNat n)), .val (.int (1 : Int32)), .val (.int (0 : Int32)), .val (.ref ns), .val (.int (Int32.ofNat kx1)), .val (.int (Int32.ofNat ky1)), .val (.int (Int32.ofNat kx2)), .val (.int (Int32.ofNat ky2)), .val (.ref r246), .val (.int ((u0 &&& (((1 : Int32) <<< ((Int32.ofNat n) &&& 31)) - (1 : Int32))) ||| ((1 : Int32) <<< ((Int32.ofNat kx1) &&& 31))))] [(.int u0), (.ref r246)])) rfl (by rw [hml]; rfl) (Steps.refl _) (argsL := [(.int u0)]) (rest := []) (lenOf pd_14 rfl) rfl (by show 2 * 0 + _ ≤ _; exact Nat.le_of_eq rfl) (hb hby at_235) (fun _ _ => ⟨rfl, rfl, (by decide : 18 + 0 ≤ _), (by decide : 67 + 0 ≤ _)⟩)
        dsimp only [Pt.U, Pt.locs, Pt.cells, Pt.slots] at X249 l249 y249 z249 st249 hQ249
        rw [l249, y249, z249] at X249
        clear l249 y249 z249
        obtain ⟨rfl, rfl, e249⟩ := hQ249
        replace NF := Fr.app NF (Fr.nil n0)
        refine Gl.tr ?_ st249
        show Gl _ _ _ _ (T249.setTop (mkF m 238 _ [(.int (f_mask u0 n (nth (own_upd (own_bits n) kx1 ky1))))]))
        refine Gl.go ?_ (fun t k => XS.iload X249.here hx rfl (hb hby at_238) rfl k)
        show Gl _ _ _ _ (T249.setTop (mkF m 240 _ [(.int ((u0 &&& (((1 : Int32) <<< ((Int32.ofNat n) &&& 31)) - (1 : Int32))) ||| ((1 : Int32) <<< ((Int32.ofNat kx1) &&& 31)))), (.int (f_mask u0 n (nth (own_upd (own_bits n) kx1 ky1))))]))
        refine Gl.go ?_ (fun t k => XS.icmpNo X249.here hx rfl (hb hby at_240) rfl (teq (((own_f2 u0 kx1 hlx hc247 l_ky1 hn5).trans (own_or (own_f0 u0 hn5))))).2 k)
        show Gl _ _ _ _ (T249.setTop (mkF m 243 _ []))
        refine Gl.go ?_ (fun t k => XS.iconst X249.here hx rfl (hb hby at_243) k)
        show Gl _ _ _ _ (T249.setTop (mkF m 244 _ [(.int (1 : Int32))]))
        refine Gl.go ?_ (fun t k => XS.goto X249.here hx rfl (pc0 := 244) (pc' := 248) rfl (hb hby at_244) (by decide) (by decide) k)
        show Gl _ _ _ _ (T249.setTop (mkF m 248 _ [(.int (1 : Int32))]))
        obtain ⟨fs, hr, hrun, hended, -, hW, hpp, hsame⟩ := Stand.leaveW (s := s) (vm₁ := T241.vm) X249 hS (by rw [e249]; exact hk) (v := some (.int (1 : Int32))) (fun h => by rw [Bd.returns] at h; cases h) (BodyLoose.notSynchronized Bd)
        exact Gl.mk ⟨_, _, retN X249 hx (t := .boolean) Bd.returns (by simp) (hb hby at_248) hr, hrun, hended, _, _, rfl, ⟨rfl, NF⟩, ⟨_, rfl⟩, hW, hpp, hsame.mono (by decide) (by decide)⟩
    · refine Gl.go ?_ (fun t k => XS.ifNo X0.here hx rfl (hb hby at_36) rfl ((if0 _ _).trans (feq hc240).1) k)
      show Gl _ _ _ _ (s₁.setTop (mkF m 39 _ []))
      refine Gl.go ?_ (fun t k => XS.iconst X0.here hx rfl (hb hby at_39) k)
      show Gl _ _ _ _ (s₁.setTop (mkF m 40 _ [(.int (1 : Int32))]))
      refine Gl.go ?_ (fun t k => XS.goto X0.here hx rfl (pc0 := 40) (pc' := 44) rfl (hb hby at_40) (by decide) (by decide) k)
      show Gl _ _ _ _ (s₁.setTop (mkF m 44 #[.val (.int u0), .val (.int u1), .val (.int u2), .val (.int (Int32.ofNat n)), .val (.int (1 : Int32)), .unset, .unset, .unset, .unset, .unset, .unset, .unset, .unset] [(.int (1 : Int32))]))
      refine Gl.go ?_ (fun t k => XS.istore X0.here hx rfl (hb hby at_44) rfl (l' := #[.val (.int u0), .val (.int u1), .val (.int u2), .val (.int (Int32.ofNat n)), .val (.int (1 : Int32)), .val (.int (1 : Int32)), .unset, .unset, .unset, .unset, .unset, .unset, .unset]) rfl k)
      show Gl _ _ _ _ (s₁.setTop (mkF m 46 _ []))
      refine Gl.go ?_ (fun t k => XS.iloadN X0.here hx rfl (hb hby at_46) rfl k)
      show Gl _ _ _ _ (s₁.setTop (mkF m 47 #[.val (.int u0), .val (.int u1), .val (.int u2), .val (.int (Int32.ofNat n)), .val (.int (1 : Int32)), .val (.int (1 : Int32)), .unset, .unset, .unset, .unset, .unset, .unset, .unset] [(.int (Int32.ofNat n))]))
      obtain ⟨_, _, ⟨T250, L250, k250, n250⟩, -, X250, hS, hgr250, ⟨Lc250, hQ250, l250, y250, z250⟩, st250⟩ := callSS X0 hx (y := (⟨"com/example/grantline/grantline/engine/ActionsImpliedMaskPinLaw", "names", "(I)[Ljava/lang/String;"⟩ : MethodName)) hown (mvT hZ (hw _ (List.mem_of_getElem? (i := 0) rfl))) (mvT hZ (hw _ (List.mem_of_getElem? (i := 1) rfl))) (mvT hZ (hw _ (List.mem_of_getElem? (i := 2) rfl))) (mvT hZ (hw _ (List.mem_of_getElem? (i := 3) rfl))) (by decide) (own_back (W := 0) (rm_nms l Z a0 hw [] n hn5 h0 n0 Z0 hn0 hZ0 hH9 hH11 hH13 hH15 hH17 hcw) hZ (hw _ (List.mem_of_getElem? (i := 3) rfl)) (hw _ (List.mem_of_getElem? (i := 2) rfl)) (by decide) (by decide)) (g := (mkF m 47 #[.val (.int u0), .val (.int u1), .val (.int u2), .val (.int (Int32.ofNat n)), .val (.int (1 : Int32)), .val (.int (1 : Int32)), .unset, .unset, .unset, .unset, .unset, .unset, .unset] [(.int (Int32.ofNat n))])) rfl (by rw [hml]; rfl) (argsL := [(.int (Int32.ofNat n))]) (rest := []) (lenOf pd_12 rfl) rfl (by show 2 * 0 + _ ≤ _; exact Nat.le_of_eq rfl) (hb hby at_47) (fun _ hW1 => ⟨rfl, e0, ⟨(by decide : 0 + 11 ≤ _), (by decide : 0 + 45 ≤ _)⟩, own_ibw hIB hW1⟩)
      dsimp only [Pt.U, Pt.locs, Pt.cells, Pt.slots] at X250 l250 y250 z250 st250 hQ250 hS
      rw [l250, y250, z250] at X250
      clear l250 y250 z250 hgr250
      obtain ⟨Nq, ns, A, rfl, EX, hNS, hStr⟩ := hQ250
      replace NF := Fr.app NF Nq
      replace hZ : Z.Warmed39 (s.setVm T250.vm).vm := State.Warmed39.trans (t := s) hZ hS.1
      replace hown : (s.setVm T250.vm).vm.findClass "com/example/grantline/grantline/engine/ActionsImpliedMaskPinLaw" = some m.cls := by rw [show (s.setVm T250.vm).vm = T250.vm from rfl, hS.1.alike.findClass]; exact hown
      replace S_CS := S_CS.ext EX
      replace S_EM := S_EM.ext EX
      replace S_EL := S_EL.ext EX
      replace E_em := E_em.ext EX
      replace Z0 := Nat.le_trans Z0 EX.1
      have hem : 2 ≤ n → (A 1) ≠ em := fun q => Exa.ne (hStr 1 (Nat.lt_of_lt_of_le (by decide) q)).1 E_em (by decide)
      have OLD : Ext T250.heap T250.heap := own_erefl _
      have hk := Nat.le_refl T250.heap.size
      refine Gl.tr ?_ st250
      show Gl _ _ _ _ (T250.setTop (mkF m 50 #[.val (.int u0), .val (.int u1), .val (.int u2), .val (.int (Int32.ofNat n)), .val (.int (1 : Int32)), .val (.int (1 : Int32)), .unset, .unset, .unset, .unset, .unset, .unset, .unset] [(.ref ns)]))
      refine Gl.go ?_ (fun t k => XS.astore X250.here hx rfl (hb hby at_50) rfl rfl (l' := #[.val (.int u0), .val (.int u1), .val (.int u2), .val (.int (Int32.ofNat n)), .val (.int (1 : Int32)), .val (.int (1 : Int32)), .val (.ref ns), .unset, .unset, .unset, .unset, .unset, .unset]) rfl k)
      show Gl _ _ _ _ (T250.setTop (mkF m 52 _ []))
      refine Gl.go ?_ (fun t k => XS.iconst X250.here hx rfl (hb hby at_52) k)
      show Gl _ _ _ _ (T250.setTop (mkF m 53 #[.val (.int u0), .val (.int u1), .val (.int u2), .val (.int (Int32.ofNat n)), .val (.int (1 : Int32)), .val (.int (1 : Int32)), .val (.ref ns), .unset, .unset, .unset, .unset, .unset, .unset] [(.int (0 : Int32))]))
      refine Gl.go ?_ (fun t k => XS.istore X250.here hx rfl (hb hby at_53) rfl (l' := #[.val (.int u0), .val (.int u1), .val (.int u2), .val (.int (Int32.ofNat n)), .val (.int (1 : Int32)), .val (.int (1 : Int32)), .val (.ref ns), .val (.int (0 : Int32)), .unset, .unset, .unset, .unset, .unset]) rfl k)
      show Gl _ _ _ _ (T250.setTop (mkF m 55 _ []))
      refine Gl.go ?_ (fun t k => XS.iconst X250.here hx rfl (hb hby at_55) k)
      show Gl _ _ _ _ (T250.setTop (mkF m 56 #[.val (.int u0), .val (.int u1), .val (.int u2), .val (.int (Int32.ofNat n)), .val (.int (1 : Int32)), .val (.int (1 : Int32)), .val (.ref ns), .val (.int (0 : Int32)), .unset, .unset, .unset, .unset, .unset] [(.int (0 : Int32))]))
      refine Gl.go ?_ (fun t k => XS.istore X250.here hx rfl (hb hby at_56) rfl (l' := #[.val (.int u0), .val (.int u1), .val (.int u2), .val (.int (Int32.ofNat n)), .val (.int (1 : Int32)), .val (.int (1 : Int32)), .val (.ref ns), .val (.int (0 : Int32)), .val (.int (0 : Int32)), .unset, .unset, .unset, .unset]) rfl k)
      show Gl _ _ _ _ (T250.setTop (mkF m 58 _ []))
      refine Gl.go ?_ (fun t k => XS.iconst X250.here hx rfl (hb hby at_58) k)
      show Gl _ _ _ _ (T250.setTop (mkF m 59 #[.val (.int u0), .val (.int u1), .val (.int u2), .val (.int (Int32.ofNat n)), .val (.int (1 : Int32)), .val (.int (1 : Int32)), .val (.ref ns), .val (.int (0 : Int32)), .val (.int (0 : Int32)), .unset, .unset, .unset, .unset] [(.int (0 : Int32))]))
      refine Gl.go ?_ (fun t k => XS.istore X250.here hx rfl (hb hby at_59) rfl (l' := #[.val (.int u0), .val (.int u1), .val (.int u2), .val (.int (Int32.ofNat n)), .val (.int (1 : Int32)), .val (.int (1 : Int32)), .val (.ref ns), .val (.int (0 : Int32)), .val (.int (0 : Int32)), .val (.int (0 : Int32)), .unset, .unset, .unset]) rfl k)
      show Gl _ _ _ _ (T250.setTop (mkF m 61 _ []))
      refine Gl.go ?_ (fun t k => XS.iconst X250.here hx rfl (hb hby at_61) k)
      show Gl _ _ _ _ (T250.setTop (mkF m 62 #[.val (.int u0), .val (.int u1), .val (.int u2), .val (.int (Int32.ofNat n)), .val (.int (1 : Int32)), .val (.int (1 : Int32)), .val (.ref ns), .val (.int (0 : Int32)), .val (.int (0 : Int32)), .val (.int (0 : Int32)), .unset, .unset, .unset] [(.int (0 : Int32))]))
      refine Gl.go ?_ (fun t k => XS.istore X250.here hx rfl (hb hby at_62) rfl (l' := #[.val (.int u0), .val (.int u1), .val (.int u2), .val (.int (Int32.ofNat n)), .val (.int (1 : Int32)), .val (.int (1 : Int32)), .val (.ref ns), .val (.int (0 : Int32)), .val (.int (0 : Int32)), .val (.int (0 : Int32)), .val (.int (0 : Int32)), .unset, .unset]) rfl k)
      show Gl _ _ _ _ (T250.setTop (mkF m 64 _ []))
      refine Gl.go ?_ (fun t k => XS.iloadN X250.here hx rfl (hb hby at_64) rfl k)
      show Gl _ _ _ _ (T250.setTop (mkF m 65 _ [(.int (Int32.ofNat n))]))
      refine Gl.go ?_ (fun t k => XS.ifNo X250.here hx rfl (hb hby at_65) rfl ((if0 _ _).trans (tlt (own_pos hn1 hn5)).2.2.2) k)
      show Gl _ _ _ _ (T250.setTop (mkF m 68 _ []))
      refine Gl.go ?_ (fun t k => XS.iloadN X250.here hx rfl (hb hby at_68) rfl k)
      show Gl _ _ _ _ (T250.setTop (mkF m 69 _ [(.int u2)]))
      refine Gl.go ?_ (fun t k => XS.bipush X250.here hx rfl (hb hby at_69) k)
      show Gl _ _ _ _ (T250.setTop (mkF m 71 _ [(.int (7 : Int32)), (.int u2)]))
      refine Gl.go ?_ (fun t k => XS.iand X250.here hx rfl (hb hby at_71) rfl k)
      show Gl _ _ _ _ (T250.setTop (mkF m 72 _ [(.int (u2 &&& (7 : Int32)))]))
      refine Gl.go ?_ (fun t k => XS.iloadN X250.here hx rfl (hb hby at_72) rfl k)
      show Gl _ _ _ _ (T250.setTop (mkF m 73 #[.val (.int u0), .val (.int u1), .val (.int u2), .val (.int (Int32.ofNat n)), .val (.int (1 : Int32)), .val (.int (1 : Int32)), .val (.ref ns), .val (.int (0 : Int32)), .val (.int (0 : Int32)), .val (.int (0 : Int32)), .val (.int (0 : Int32)), .unset, .unset] [(.int (Int32.ofNat n)), (.int (u2 &&& (7 : Int32)))]))
      refine Gl.go ?_ (fun t k => iremM X250 hx rfl (hb hby at_73) rfl (own_nzn hn1 hn5) k)
      show Gl _ _ _ _ (T250.setTop (mkF m 74 #[.val (.int u0), .val (.int u1), .val (.int u2), .val (.int (Int32.ofNat n)), .val (.int (1 : Int32)), .val (.int (1 : Int32)), .val (.ref ns), .val (.int (0 : Int32)), .val (.int (0 : Int32)), .val (.int (0 : Int32)), .val (.int (0 : Int32)), .unset, .unset] [(.int ((u2 &&& (7 : Int32)) % (Int32.ofNat n)))]))
      obtain ⟨kx1, l_kx1, q_kx1⟩ := own_rem7 u2 (Int32.ofNat n) n hn1 (own_ton hn5)
      rw [q_kx1]
      refine Gl.go ?_ (fun t k => XS.istore X250.here hx rfl (hb hby at_74) rfl (l' := #[.val (.int u0), .val (.int u1), .val (.int u2), .val (.int (Int32.ofNat n)), .val (.int (1 : Int32)), .val (.int (1 : Int32)), .val (.ref ns), .val (.int (Int32.ofNat kx1)), .val (.int (0 : Int32)), .val (.int (0 : Int32)), .val (.int (0 : Int32)), .unset, .unset]) rfl k)
      show Gl _ _ _ _ (T250.setTop (mkF m 76 _ []))
      refine Gl.go ?_ (fun t k => XS.iloadN X250.here hx rfl (hb hby at_76) rfl k)
      show Gl _ _ _ _ (T250.setTop (mkF m 77 _ [(.int u2)]))
      refine Gl.go ?_ (fun t k => XS.iconst X250.here hx rfl (hb hby at_77) k)
      show Gl _ _ _ _ (T250.setTop (mkF m 78 _ [(.int (3 : Int32)), (.int u2)]))
      refine Gl.go ?_ (fun t k => XS.iushr X250.here hx rfl (hb hby at_78) rfl k)
      show Gl _ _ _ _ (T250.setTop (mkF m 79 _ [(.int ((u2.toUInt32 >>> ((3 : Int32) &&& 31).toUInt32).toInt32))]))
      refine Gl.go ?_ (fun t k => XS.bipush X250.here hx rfl (hb hby at_79) k)
      show Gl _ _ _ _ (T250.setTop (mkF m 81 _ [(.int (7 : Int32)), (.int ((u2.toUInt32 >>> ((3 : Int32) &&& 31).toUInt32).toInt32))]))
      refine Gl.go ?_ (fun t k => XS.iand X250.here hx rfl (hb hby at_81) rfl k)
      show Gl _ _ _ _ (T250.setTop (mkF m 82 _ [(.int (((u2.toUInt32 >>> ((3 : Int32) &&& 31).toUInt32).toInt32) &&& (7 : Int32)))]))
      refine Gl.go ?_ (fun t k => XS.iloadN X250.here hx rfl (hb hby at_82) rfl k)
      show Gl _ _ _ _ (T250.setTop (mkF m 83 #[.val (.int u0), .val (.int u1), .val (.int u2), .val (.int (Int32.ofNat n)), .val (.int (1 : Int32)), .val (.int (1 : Int32)), .val (.ref ns), .val (.int (Int32.ofNat kx1)), .val (.int (0 : Int32)), .val (.int (0 : Int32)), .val (.int (0 : Int32)), .unset, .unset] [(.int (Int32.ofNat n)), (.int (((u2.toUInt32 >>> ((3 : Int32) &&& 31).toUInt32).toInt32) &&& (7 : Int32)))]))
      refine Gl.go ?_ (fun t k => iremM X250 hx rfl (hb hby at_83) rfl (own_nzn hn1 hn5) k)
      show Gl _ _ _ _ (T250.setTop (mkF m 84 #[.val (.int u0), .val (.int u1), .val (.int u2), .val (.int (Int32.ofNat n)), .val (.int (1 : Int32)), .val (.int (1 : Int32)), .val (.ref ns), .val (.int (Int32.ofNat kx1)), .val (.int (0 : Int32)), .val (.int (0 : Int32)), .val (.int (0 : Int32)), .unset, .unset] [(.int ((((u2.toUInt32 >>> ((3 : Int32) &&& 31).toUInt32).toInt32) &&& (7 : Int32)) % (Int32.ofNat n)))]))
      obtain ⟨ky1, l_ky1, q_ky1⟩ := own_rem7 ((u2.toUInt32 >>> ((3 : Int32) &&& 31).toUInt32).toInt32) (Int32.ofNat n) n hn1 (own_ton hn5)
      rw [q_ky1]
      refine Gl.go ?_ (fun t k => XS.istore X250.here hx rfl (hb hby at_84) rfl (l' := #[.val (.int u0), .val (.int u1), .val (.int u2), .val (.int (Int32.ofNat n)), .val (.int (1 : Int32)), .val (.int (1 : Int32)), .val (.ref ns), .val (.int (Int32.ofNat kx1)), .val (.int (Int32.ofNat ky1)), .val (.int (0 : Int32)), .val (.int (0 : Int32)), .unset, .unset]) rfl k)
      show Gl _ _ _ _ (T250.setTop (mkF m 86 _ []))
      refine Gl.go ?_ (fun t k => XS.iloadN X250.here hx rfl (hb hby at_86) rfl k)
      show Gl _ _ _ _ (T250.setTop (mkF m 87 _ [(.int u2)]))
      refine Gl.go ?_ (fun t k => XS.bipush X250.here hx rfl (hb hby at_87) k)
      show Gl _ _ _ _ (T250.setTop (mkF m 89 _ [(.int (6 : Int32)), (.int u2)]))
      refine Gl.go ?_ (fun t k => XS.iushr X250.here hx rfl (hb hby at_89) rfl k)
      show Gl _ _ _ _ (T250.setTop (mkF m 90 _ [(.int ((u2.toUInt32 >>> ((6 : Int32) &&& 31).toUInt32).toInt32))]))
      refine Gl.go ?_ (fun t k => XS.bipush X250.here hx rfl (hb hby at_90) k)
      show Gl _ _ _ _ (T250.setTop (mkF m 92 _ [(.int (7 : Int32)), (.int ((u2.toUInt32 >>> ((6 : Int32) &&& 31).toUInt32).toInt32))]))
      refine Gl.go ?_ (fun t k => XS.iand X250.here hx rfl (hb hby at_92) rfl k)
      show Gl _ _ _ _ (T250.setTop (mkF m 93 _ [(.int (((u2.toUInt32 >>> ((6 : Int32) &&& 31).toUInt32).toInt32) &&& (7 : Int32)))]))
      refine Gl.go ?_ (fun t k => XS.iloadN X250.here hx rfl (hb hby at_93) rfl k)
      show Gl _ _ _ _ (T250.setTop (mkF m 94 #[.val (.int u0), .val (.int u1), .val (.int u2), .val (.int (Int32.ofNat n)), .val (.int (1 : Int32)), .val (.int (1 : Int32)), .val (.ref ns), .val (.int (Int32.ofNat kx1)), .val (.int (Int32.ofNat ky1)), .val (.int (0 : Int32)), .val (.int (0 : Int32)), .unset, .unset] [(.int (Int32.ofNat n)), (.int (((u2.toUInt32 >>> ((6 : Int32) &&& 31).toUInt32).toInt32) &&& (7 : Int32)))]))
      refine Gl.go ?_ (fun t k => iremM X250 hx rfl (hb hby at_94) rfl (own_nzn hn1 hn5) k)
      show Gl _ _ _ _ (T250.setTop (mkF m 95 #[.val (.int u0), .val (.int u1), .val (.int u2), .val (.int (Int32.ofNat n)), .val (.int (1 : Int32)), .val (.int (1 : Int32)), .val (.ref ns), .val (.int (Int32.ofNat kx1)), .val (.int (Int32.ofNat ky1)), .val (.int (0 : Int32)), .val (.int (0 : Int32)), .unset, .unset] [(.int ((((u2.toUInt32 >>> ((6 : Int32) &&& 31).toUInt32).toInt32) &&& (7 : Int32)) % (Int32.ofNat n)))]))
      obtain ⟨kx2, l_kx2, q_kx2⟩ := own_rem7 ((u2.toUInt32 >>> ((6 : Int32) &&& 31).toUInt32).toInt32) (Int32.ofNat n) n hn1 (own_ton hn5)
      rw [q_kx2]
      refine Gl.go ?_ (fun t k => XS.istore X250.here hx rfl (hb hby at_95) rfl (l' := #[.val (.int u0), .val (.int u1), .val (.int u2), .val (.int (Int32.ofNat n)), .val (.int (1 : Int32)), .val (.int (1 : Int32)), .val (.ref ns), .val (.int (Int32.ofNat kx1)), .val (.int (Int32.ofNat ky1)), .val (.int (Int32.ofNat kx2)), .val (.int (0 : Int32)), .unset, .unset]) rfl k)
      show Gl _ _ _ _ (T250.setTop (mkF m 97 _ []))
      refine Gl.go ?_ (fun t k => XS.iloadN X250.here hx rfl (hb hby at_97) rfl k)
      show Gl _ _ _ _ (T250.setTop (mkF m 98 _ [(.int u2)]))
      refine Gl.go ?_ (fun t k => XS.bipush X250.here hx rfl (hb hby at_98) k)
      show Gl _ _ _ _ (T250.setTop (mkF m 100 _ [(.int (9 : Int32)), (.int u2)]))
      refine Gl.go ?_ (fun t k => XS.iushr X250.here hx rfl (hb hby at_100) rfl k)
      show Gl _ _ _ _ (T250.setTop (mkF m 101 _ [(.int ((u2.toUInt32 >>> ((9 : Int32) &&& 31).toUInt32).toInt32))]))
      refine Gl.go ?_ (fun t k => XS.bipush X250.here hx rfl (hb hby at_101) k)
      show Gl _ _ _ _ (T250.setTop (mkF m 103 _ [(.int (7 : Int32)), (.int ((u2.toUInt32 >>> ((9 : Int32) &&& 31).toUInt32).toInt32))]))
      refine Gl.go ?_ (fun t k => XS.iand X250.here hx rfl (hb hby at_103) rfl k)
      show Gl _ _ _ _ (T250.setTop (mkF m 104 _ [(.int (((u2.toUInt32 >>> ((9 : Int32) &&& 31).toUInt32).toInt32) &&& (7 : Int32)))]))
      refine Gl.go ?_ (fun t k => XS.iloadN X250.here hx rfl (hb hby at_104) rfl k)
      show Gl _ _ _ _ (T250.setTop (mkF m 105 #[.val (.int u0), .val (.int u1), .val (.int u2), .val (.int (Int32.ofNat n)), .val (.int (1 : Int32)), .val (.int (1 : Int32)), .val (.ref ns), .val (.int (Int32.ofNat kx1)), .val (.int (Int32.ofNat ky1)), .val (.int (Int32.ofNat kx2)), .val (.int (0 : Int32)), .unset, .unset] [(.int (Int32.ofNat n)), (.int (((u2.toUInt32 >>> ((9 : Int32) &&& 31).toUInt32).toInt32) &&& (7 : Int32)))]))
      refine Gl.go ?_ (fun t k => iremM X250 hx rfl (hb hby at_105) rfl (own_nzn hn1 hn5) k)
      show Gl _ _ _ _ (T250.setTop (mkF m 106 #[.val (.int u0), .val (.int u1), .val (.int u2), .val (.int (Int32.ofNat n)), .val (.int (1 : Int32)), .val (.int (1 : Int32)), .val (.ref ns), .val (.int (Int32.ofNat kx1)), .val (.int (Int32.ofNat ky1)), .val (.int (Int32.ofNat kx2)), .val (.int (0 : Int32)), .unset, .unset] [(.int ((((u2.toUInt32 >>> ((9 : Int32) &&& 31).toUInt32).toInt32) &&& (7 : Int32)) % (Int32.ofNat n)))]))
      obtain ⟨ky2, l_ky2, q_ky2⟩ := own_rem7 ((u2.toUInt32 >>> ((9 : Int32) &&& 31).toUInt32).toInt32) (Int32.ofNat n) n hn1 (own_ton hn5)
      rw [q_ky2]
      refine Gl.go ?_ (fun t k => XS.istore X250.here hx rfl (hb hby at_106) rfl (l' := #[.val (.int u0), .val (.int u1), .val (.int u2), .val (.int (Int32.ofNat n)), .val (.int (1 : Int32)), .val (.int (1 : Int32)), .val (.ref ns), .val (.int (Int32.ofNat kx1)), .val (.int (Int32.ofNat ky1)), .val (.int (Int32.ofNat kx2)), .val (.int (Int32.ofNat ky2)), .unset, .unset]) rfl k)
      show Gl _ _ _ _ (T250.setTop (mkF m 108 #[.val (.int u0), .val (.int u1), .val (.int u2), .val (.int (Int32.ofNat n)), .val (.int (1 : Int32)), .val (.int (1 : Int32)), .val (.ref ns), .val (.int (Int32.ofNat kx1)), .val (.int (Int32.ofNat ky1)), .val (.int (Int32.ofNat kx2)), .val (.int (Int32.ofNat ky2)), .unset, .unset] []))
      obtain ⟨T251, h251, X251, e251, E251, A251, D251, -, st251⟩ := newO X250 hx hZ hown (hw _ (List.mem_of_getElem? (i := 17) rfl)) (hw _ (List.mem_of_getElem? (i := 18) rfl)) (hw _ (List.mem_of_getElem? (i := 19) rfl)) rfl (g := (mkF m 108 #[.val (.int u0), .val (.int u1), .val (.int u2), .val (.int (Int32.ofNat n)), .val (.int (1 : Int32)), .val (.int (1 : Int32)), .val (.ref ns), .val (.int (Int32.ofNat kx1)), .val (.int (Int32.ofNat ky1)), .val (.int (Int32.ofNat kx2)), .val (.int (Int32.ofNat ky2)), .unset, .unset] [])) rfl (hb hby at_108) (by decide) (by decide)
      obtain ⟨b251, g251⟩ : ∃ z, z = T250.heap.size := ⟨_, rfl⟩
      rw [← g251] at A251 D251 st251
      have g_b251 : n0 ≤ b251 := Nat.le_trans Z0 (Nat.le_of_eq g251.symm)
      have sz_b251 : (T250.heap).size ≤ b251 := Nat.le_trans OLD.1 (Nat.le_of_eq g251.symm)
      have hi_b251 := Nat.le_trans hk (Nat.le_of_eq g251.symm)
      replace OLD := own_oext OLD E251
      replace hk := Nat.le_trans hk E251.1
      replace Z0 := Nat.le_trans Z0 E251.1
      have E_b251 := A251
      have F_names_b251 : Fld Z h251 b251 "com/example/grantline/grantline/engine/Actions" "names" "Ljava/util/List;" .null := D251 (Or.inr (hw _ (List.mem_of_getElem? (i := 76) rfl))) (ty := (.object "java/util/List")) (by decide)
      have F_implied_b251 : Fld Z h251 b251 "com/example/grantline/grantline/engine/Actions" "implied" "[I" .null := D251 (Or.inr (hw _ (List.mem_of_getElem? (i := 78) rfl))) (ty := (.array .int)) (by decide)
      refine Gl.go ?_ st251
      show Gl _ _ _ _ (T251.setTop (mkF m 111 _ [(.ref b251)]))
      refine Gl.go ?_ (fun t k => XS.dup X251.here hx rfl (hb hby at_111) rfl rfl k)
      show Gl _ _ _ _ (T251.setTop (mkF m 112 _ [(.ref b251), (.ref b251)]))
      refine Gl.go ?_ (fun t k => XS.aload X251.here hx rfl (hb hby at_112) rfl rfl k)
      show Gl _ _ _ _ (T251.setTop (mkF m 114 #[.val (.int u0), .val (.int u1), .val (.int u2), .val (.int (Int32.ofNat n)), .val (.int (1 : Int32)), .val (.int (1 : Int32)), .val (.ref ns), .val (.int (Int32.ofNat kx1)), .val (.int (Int32.ofNat ky1)), .val (.int (Int32.ofNat kx2)), .val (.int (Int32.ofNat ky2)), .unset, .unset] [(.ref ns), (.ref b251), (.ref b251)]))
      obtain ⟨_, _, ⟨T252, L252, k252, n252⟩, -, X252, ⟨Lc252, hQ252, l252, y252, z252⟩, st252⟩ := X251.specialBack hx (y := (⟨"com/example/grantline/grantline/engine/Actions", "<init>", "([Ljava/lang/String;)V"⟩ : MethodName)) rfl hown (mvT hZ (hw _ (List.mem_of_getElem? (i := 20) rfl))) (mvT hZ (hw _ (List.mem_of_getElem? (i := 21) rfl))) (mvT hZ (hw _ (List.mem_of_getElem? (i := 22) rfl))) (by decide) (backOf (W := 1) (rm_ai1 l Z a0 hw [] n hn5 b251 ns A em el _ _ h251 n0 Z0 E_b251 g_b251 F_names_b251 F_implied_b251 (Nat.ne_of_lt (Nat.lt_of_lt_of_le hNS.lt sz_b251)) (hNS.ext OLD) (fun i q => ((hStr i q).1).ext OLD) (S_EM.ext OLD) (S_EL.ext OLD)) hZ (hw _ (List.mem_of_getElem? (i := 22) rfl)) (hw _ (List.mem_of_getElem? (i := 19) rfl)) (by decide) (by decide)) (g := (mkF m 114 #[.val (.int u0), .val (.int u1), .val (.int u2), .val (.int (Int32.ofNat n)), .val (.int (1 : Int32)), .val (.int (1 : Int32)), .val (.ref ns), .val (.int (Int32.ofNat kx1)), .val (.int (Int32.ofNat ky1)), .val (.int (Int32.ofNat kx2)), .val (.int (Int32.ofNat ky2)), .unset, .unset] [(.ref ns), (.ref b251), (.ref b251)])) rfl (by rw [hml]; rfl) (Steps.refl _) (a := b251) (argsL := [(.ref ns)]) (rest := [(.ref b251)]) (lenOf pd_13 rfl) rfl (by show 2 * 0 + _ ≤ _; exact Nat.le_of_eq rfl) (hb hby at_114) (fun _ _ => ⟨rfl, e251, (by decide : 12 + 3 ≤ _), (by decide : 47 + 12 ≤ _)⟩)
      dsimp only [Pt.U, Pt.locs, Pt.cells, Pt.slots] at X252 l252 y252 z252 st252 hQ252
      rw [l252, y252, z252] at X252
      clear l252 y252 z252
      obtain ⟨N252q, rfl, K252, ec252, ls252, ia252, fn252, fi252, lk252, iA252⟩ := hQ252
      replace NF := Fr.app NF N252q
      replace OLD := own_okeep OLD K252 (fun y hy => by cases List.mem_singleton.mp hy; exact sz_b251)
      replace hk := Nat.le_trans hk K252.1
      replace Z0 := Nat.le_trans Z0 K252.1
      replace S_CS := S_CS.ext OLD
      replace S_EM := S_EM.ext OLD
      replace S_EL := S_EL.ext OLD
      replace hNS := hNS.ext OLD
      replace hStr : ∀ i, i < n → StrIs Z T252.heap (A i) (own_ch i) := fun i q => (hStr i q).ext OLD
      replace OLD : Ext T252.heap T252.heap := own_erefl _
      have E_act := ec252
      have F_nm := fn252
      have F_im := fi252
      have hLK := lk252
      have hIA := iA252
      have hlx : (own_bits n).length = n := own_bl hn5
      refine Gl.tr ?_ st252
      show Gl _ _ _ _ (T252.setTop (mkF m 117 #[.val (.int u0), .val (.int u1), .val (.int u2), .val (.int (Int32.ofNat n)), .val (.int (1 : Int32)), .val (.int (1 : Int32)), .val (.ref ns), .val (.int (Int32.ofNat kx1)), .val (.int (Int32.ofNat ky1)), .val (.int (Int32.ofNat kx2)), .val (.int (Int32.ofNat ky2)), .unset, .unset] [(.ref b251)]))
      refine Gl.go ?_ (fun t k => XS.astore X252.here hx rfl (hb hby at_117) rfl rfl (l' := #[.val (.int u0), .val (.int u1), .val (.int u2), .val (.int (Int32.ofNat n)), .val (.int (1 : Int32)), .val (.int (1 : Int32)), .val (.ref ns), .val (.int (Int32.ofNat kx1)), .val (.int (Int32.ofNat ky1)), .val (.int (Int32.ofNat kx2)), .val (.int (Int32.ofNat ky2)), .val (.ref b251), .unset]) rfl k)
      show Gl _ _ _ _ (T252.setTop (mkF m 119 _ []))
      refine Gl.go ?_ (fun t k => XS.iload X252.here hx rfl (hb hby at_119) rfl k)
      show Gl _ _ _ _ (T252.setTop (mkF m 121 _ [(.int (1 : Int32))]))
      refine Gl.go ?_ (fun t k => XS.ifNo X252.here hx rfl (hb hby at_121) rfl ((if0 _ _).trans (feq (by decide : ¬ ((1 : Int32) = (0 : Int32)))).1) k)
      show Gl _ _ _ _ (T252.setTop (mkF m 124 _ []))
      refine Gl.go ?_ (fun t k => XS.aload X252.here hx rfl (hb hby at_124) rfl rfl k)
      show Gl _ _ _ _ (T252.setTop (mkF m 126 _ [(.ref b251)]))
      refine Gl.go ?_ (fun t k => XS.aload X252.here hx rfl (hb hby at_126) rfl rfl k)
      show Gl _ _ _ _ (T252.setTop (mkF m 128 _ [(.ref ns), (.ref b251)]))
      refine Gl.go ?_ (fun t k => XS.iload X252.here hx rfl (hb hby at_128) rfl k)
      show Gl _ _ _ _ (T252.setTop (mkF m 130 #[.val (.int u0), .val (.int u1), .val (.int u2), .val (.int (Int32.ofNat n)), .val (.int (1 : Int32)), .val (.int (1 : Int32)), .val (.ref ns), .val (.int (Int32.ofNat kx1)), .val (.int (Int32.ofNat ky1)), .val (.int (Int32.ofNat kx2)), .val (.int (Int32.ofNat ky2)), .val (.ref b251), .unset] [(.int (Int32.ofNat kx1)), (.ref ns), (.ref b251)]))
      have rd := RA.rd (hNS.ext OLD) rfl X252 hx hZ rfl (own_lo l_kx1 hn5) (own_hi l_kx1 hn5) (g := (mkF m 130 #[.val (.int u0), .val (.int u1), .val (.int u2), .val (.int (Int32.ofNat n)), .val (.int (1 : Int32)), .val (.int (1 : Int32)), .val (.ref ns), .val (.int (Int32.ofNat kx1)), .val (.int (Int32.ofNat ky1)), .val (.int (Int32.ofNat kx2)), .val (.int (Int32.ofNat ky2)), .val (.ref b251), .unset] [(.int (Int32.ofNat kx1)), (.ref ns), (.ref b251)])) rfl rfl (hb hby at_130)
      rw [own_tn (Nat.le_trans (Nat.le_of_lt l_kx1) hn5)] at rd
      refine Gl.go ?_ rd
      clear rd
      show Gl _ _ _ _ (T252.setTop (mkF m 131 _ [(.ref (A kx1)), (.ref b251)]))
      refine Gl.go ?_ (fun t k => XS.iconst X252.here hx rfl (hb hby at_131) k)
      show Gl _ _ _ _ (T252.setTop (mkF m 132 #[.val (.int u0), .val (.int u1), .val (.int u2), .val (.int (Int32.ofNat n)), .val (.int (1 : Int32)), .val (.int (1 : Int32)), .val (.ref ns), .val (.int (Int32.ofNat kx1)), .val (.int (Int32.ofNat ky1)), .val (.int (Int32.ofNat kx2)), .val (.int (Int32.ofNat ky2)), .val (.ref b251), .unset] [(.int (1 : Int32)), (.ref (A kx1)), (.ref b251)]))
      obtain ⟨T253, h253, k253, X253, e253, E253, A253, O253, st253⟩ := newR X252 hx hZ hown (hw _ (List.mem_of_getElem? (i := 4) rfl)) (hw _ (List.mem_of_getElem? (i := 5) rfl)) rfl (g := (mkF m 132 #[.val (.int u0), .val (.int u1), .val (.int u2), .val (.int (Int32.ofNat n)), .val (.int (1 : Int32)), .val (.int (1 : Int32)), .val (.ref ns), .val (.int (Int32.ofNat kx1)), .val (.int (Int32.ofNat ky1)), .val (.int (Int32.ofNat kx2)), .val (.int (Int32.ofNat ky2)), .val (.ref b251), .unset] [(.int (1 : Int32)), (.ref (A kx1)), (.ref b251)])) rfl (hb hby at_132) rfl (by decide) (cap := 1) (by decide) (by decide) (by decide) (by decide)
      obtain ⟨b253, g253⟩ : ∃ z, z = T252.heap.size := ⟨_, rfl⟩
      rw [← g253] at A253 st253
      have g_b253 : n0 ≤ b253 := Nat.le_trans Z0 (Nat.le_of_eq g253.symm)
      have sz_b253 : (T252.heap).size ≤ b253 := Nat.le_trans OLD.1 (Nat.le_of_eq g253.symm)
      have hi_b253 := Nat.le_trans hk (Nat.le_of_eq g253.symm)
      replace OLD := own_oext OLD E253
      replace hk := Nat.le_trans hk E253.1
      replace Z0 := Nat.le_trans Z0 E253.1
      have V_b253 : Arv Z h253 b253 k253 (.object "java/lang/String") (1 : Int32) [.null] .null := (Arv.new A253 (by decide)).pad (pad_rep [] .null 1)
      refine Gl.go ?_ st253
      show Gl _ _ _ _ (T253.setTop (mkF m 135 _ [(.ref b253), (.ref (A kx1)), (.ref b251)]))
      refine Gl.go ?_ (fun t k => XS.dup X253.here hx rfl (hb hby at_135) rfl rfl k)
      show Gl _ _ _ _ (T253.setTop (mkF m 136 _ [(.ref b253), (.ref b253), (.ref (A kx1)), (.ref b251)]))
      refine Gl.go ?_ (fun t k => XS.iconst X253.here hx rfl (hb hby at_136) k)
      show Gl _ _ _ _ (T253.setTop (mkF m 137 _ [(.int (0 : Int32)), (.ref b253), (.ref b253), (.ref (A kx1)), (.ref b251)]))
      refine Gl.go ?_ (fun t k => XS.aload X253.here hx rfl (hb hby at_137) rfl rfl k)
      show Gl _ _ _ _ (T253.setTop (mkF m 139 _ [(.ref ns), (.int (0 : Int32)), (.ref b253), (.ref b253), (.ref (A kx1)), (.ref b251)]))
      refine Gl.go ?_ (fun t k => XS.iload X253.here hx rfl (hb hby at_139) rfl k)
      show Gl _ _ _ _ (T253.setTop (mkF m 141 #[.val (.int u0), .val (.int u1), .val (.int u2), .val (.int (Int32.ofNat n)), .val (.int (1 : Int32)), .val (.int (1 : Int32)), .val (.ref ns), .val (.int (Int32.ofNat kx1)), .val (.int (Int32.ofNat ky1)), .val (.int (Int32.ofNat kx2)), .val (.int (Int32.ofNat ky2)), .val (.ref b251), .unset] [(.int (Int32.ofNat ky1)), (.ref ns), (.int (0 : Int32)), (.ref b253), (.ref b253), (.ref (A kx1)), (.ref b251)]))
      have rd := RA.rd (hNS.ext OLD) rfl X253 hx hZ e253 (own_lo l_ky1 hn5) (own_hi l_ky1 hn5) (g := (mkF m 141 #[.val (.int u0), .val (.int u1), .val (.int u2), .val (.int (Int32.ofNat n)), .val (.int (1 : Int32)), .val (.int (1 : Int32)), .val (.ref ns), .val (.int (Int32.ofNat kx1)), .val (.int (Int32.ofNat ky1)), .val (.int (Int32.ofNat kx2)), .val (.int (Int32.ofNat ky2)), .val (.ref b251), .unset] [(.int (Int32.ofNat ky1)), (.ref ns), (.int (0 : Int32)), (.ref b253), (.ref b253), (.ref (A kx1)), (.ref b251)])) rfl rfl (hb hby at_141)
      rw [own_tn (Nat.le_trans (Nat.le_of_lt l_ky1) hn5)] at rd
      refine Gl.go ?_ rd
      clear rd
      show Gl _ _ _ _ (T253.setTop (mkF m 142 #[.val (.int u0), .val (.int u1), .val (.int u2), .val (.int (Int32.ofNat n)), .val (.int (1 : Int32)), .val (.int (1 : Int32)), .val (.ref ns), .val (.int (Int32.ofNat kx1)), .val (.int (Int32.ofNat ky1)), .val (.int (Int32.ofNat kx2)), .val (.int (Int32.ofNat ky2)), .val (.ref b251), .unset] [(.ref (A ky1)), (.int (0 : Int32)), (.ref b253), (.ref b253), (.ref (A kx1)), (.ref b251)]))
      obtain ⟨cl254, Ar254, q254, S254, N254, Hh254, G254⟩ := V_b253
      obtain ⟨T254, h254, X254, e254, W254, st254⟩ := stR X253 hx hZ e253 Ar254 (j := (0 : Int32)) (inb_of S254 ⟨by decide, by decide⟩) rfl (Sto.ofV Ar254 q254 O253 (Ins.self (((hStr ky1 l_ky1).1).ext OLD))) (g := (mkF m 142 #[.val (.int u0), .val (.int u1), .val (.int u2), .val (.int (Int32.ofNat n)), .val (.int (1 : Int32)), .val (.int (1 : Int32)), .val (.ref ns), .val (.int (Int32.ofNat kx1)), .val (.int (Int32.ofNat ky1)), .val (.int (Int32.ofNat kx2)), .val (.int (Int32.ofNat ky2)), .val (.ref b251), .unset] [(.ref (A ky1)), (.int (0 : Int32)), (.ref b253), (.ref b253), (.ref (A kx1)), (.ref b251)])) rfl rfl (hb hby at_142)
      replace OLD := own_owr OLD W254 sz_b253
      replace hk := Nat.le_trans hk (Keep.of_wr W254).1
      replace Z0 := Nat.le_trans Z0 (Keep.of_wr W254).1
      have V_b253 : Arv Z h254 b253 k253 (.object "java/lang/String") (1 : Int32) [(.ref (A ky1))] .null := Arv.set Ar254 q254 S254 N254 Hh254 G254 rfl W254 0 rfl (Nat.le_of_ble_eq_true rfl)
      clear Hh254 G254 N254 S254 q254 W254
      clear Ar254
      clear cl254
      replace NF := Fr.snoc X254 NF g_b253
      refine Gl.go ?_ st254
      show Gl _ _ _ _ (T254.setTop (mkF m 143 #[.val (.int u0), .val (.int u1), .val (.int u2), .val (.int (Int32.ofNat n)), .val (.int (1 : Int32)), .val (.int (1 : Int32)), .val (.ref ns), .val (.int (Int32.ofNat kx1)), .val (.int (Int32.ofNat ky1)), .val (.int (Int32.ofNat kx2)), .val (.int (Int32.ofNat ky2)), .val (.ref b251), .unset] [(.ref b253), (.ref (A kx1)), (.ref b251)]))
      obtain ⟨cq255, kq255, q255a, q255b, q255c⟩ := isOf hZ e254 (E_act.ext OLD)
      obtain ⟨_, _, ⟨T255, L255, k255, n255⟩, -, X255, ⟨Lc255, hQ255, l255, y255, z255⟩, st255⟩ := X254.virtualBack hx (y := (⟨"com/example/grantline/grantline/engine/Actions", "withImplied", "(Ljava/lang/String;[Ljava/lang/String;)Lcom/example/grantline/grantline/engine/Actions;"⟩ : MethodName)) (z := (⟨"com/example/grantline/grantline/engine/Actions", "withImplied", "(Ljava/lang/String;[Ljava/lang/String;)Lcom/example/grantline/grantline/engine/Actions;"⟩ : MethodName)) hown (mvT hZ (hw _ (List.mem_of_getElem? (i := 85) rfl))) (mvT hZ (hw _ (List.mem_of_getElem? (i := 86) rfl))) (notFace_of_selects (args := #[]) (mvT hZ (hw _ (List.mem_of_getElem? (i := 88) rfl)))) (mvT hZ (hw _ (List.mem_of_getElem? (i := 88) rfl))) (mvT hZ (hw _ (List.mem_of_getElem? (i := 87) rfl))) (by decide) (backOf (W := 0) (rm_wi l Z a0 hw [] b251 b253 A n kx1 ky1 (own_bits n) cs em ls252 ia252 h254 n0 Z0 (E_act.ext OLD) (F_nm.ext OLD) (F_im.ext OLD) (hIA.ext OLD) hlx hn5 (hLK.ext OLD) (RA.of V_b253 1 rfl (own_lt1 rfl)) (S_EM.ext OLD) hem (fun i q => (hStr i q).ext OLD) (S_CS.ext OLD) hcs l_kx1 l_ky1) hZ (hw _ (List.mem_of_getElem? (i := 89) rfl)) (hw _ (List.mem_of_getElem? (i := 19) rfl)) (by decide) (by decide)) q255a q255c (g := (mkF m 143 #[.val (.int u0), .val (.int u1), .val (.int u2), .val (.int (Int32.ofNat n)), .val (.int (1 : Int32)), .val (.int (1 : Int32)), .val (.ref ns), .val (.int (Int32.ofNat kx1)), .val (.int (Int32.ofNat ky1)), .val (.int (Int32.ofNat kx2)), .val (.int (Int32.ofNat ky2)), .val (.ref b251), .unset] [(.ref b253), (.ref (A kx1)), (.ref b251)])) rfl (by rw [hml]; rfl) (Steps.refl _) (argsL := [(.ref (A kx1)), (.ref b253)]) (rest := []) (lenOf pd_15 rfl) rfl (by show 2 * 0 + _ ≤ _; exact Nat.le_of_eq rfl) (hb hby at_143) (fun _ _ => ⟨rfl, e254, (by decide : 16 + 2 ≤ _), (by decide : 60 + 7 ≤ _)⟩)
      dsimp only [Pt.U, Pt.locs, Pt.cells, Pt.slots] at X255 l255 y255 z255 st255 hQ255
      rw [l255, y255, z255] at X255
      clear l255 y255 z255
      obtain ⟨N255q, r255, ia255, rfl, EX255, ec255, fn255, fi255, iA255⟩ := hQ255
      replace NF := Fr.app NF N255q
      replace OLD := own_oext OLD EX255
      replace hk := Nat.le_trans hk EX255.1
      replace Z0 := Nat.le_trans Z0 EX255.1
      replace S_CS := S_CS.ext OLD
      replace S_EM := S_EM.ext OLD
      replace S_EL := S_EL.ext OLD
      replace hNS := hNS.ext OLD
      replace hLK := hLK.ext OLD
      replace hStr : ∀ i, i < n → StrIs Z T255.heap (A i) (own_ch i) := fun i q => (hStr i q).ext OLD
      replace OLD : Ext T255.heap T255.heap := own_erefl _
      replace E_act := ec255
      replace F_nm := fn255
      replace F_im := fi255
      replace hIA := iA255
      have hl255 : (own_upd (own_bits n) kx1 ky1).length = n := (own_lenu _ _ _).trans hlx
      refine Gl.tr ?_ st255
      show Gl _ _ _ _ (T255.setTop (mkF m 146 #[.val (.int u0), .val (.int u1), .val (.int u2), .val (.int (Int32.ofNat n)), .val (.int (1 : Int32)), .val (.int (1 : Int32)), .val (.ref ns), .val (.int (Int32.ofNat kx1)), .val (.int (Int32.ofNat ky1)), .val (.int (Int32.ofNat kx2)), .val (.int (Int32.ofNat ky2)), .val (.ref b251), .unset] [(.ref r255)]))
      refine Gl.go ?_ (fun t k => XS.astore X255.here hx rfl (hb hby at_146) rfl rfl (l' := #[.val (.int u0), .val (.int u1), .val (.int u2), .val (.int (Int32.ofNat n)), .val (.int (1 : Int32)), .val (.int (1 : Int32)), .val (.ref ns), .val (.int (Int32.ofNat kx1)), .val (.int (Int32.ofNat ky1)), .val (.int (Int32.ofNat kx2)), .val (.int (Int32.ofNat ky2)), .val (.ref r255), .unset]) rfl k)
      show Gl _ _ _ _ (T255.setTop (mkF m 148 _ []))
      refine Gl.go ?_ (fun t k => XS.iload X255.here hx rfl (hb hby at_148) rfl k)
      show Gl _ _ _ _ (T255.setTop (mkF m 150 _ [(.int (1 : Int32))]))
      refine Gl.go ?_ (fun t k => XS.ifNo X255.here hx rfl (hb hby at_150) rfl ((if0 _ _).trans (feq (by decide : ¬ ((1 : Int32) = (0 : Int32)))).1) k)
      show Gl _ _ _ _ (T255.setTop (mkF m 153 _ []))
      refine Gl.go ?_ (fun t k => XS.aload X255.here hx rfl (hb hby at_153) rfl rfl k)
      show Gl _ _ _ _ (T255.setTop (mkF m 155 _ [(.ref r255)]))
      refine Gl.go ?_ (fun t k => XS.aload X255.here hx rfl (hb hby at_155) rfl rfl k)
      show Gl _ _ _ _ (T255.setTop (mkF m 157 _ [(.ref ns), (.ref r255)]))
      refine Gl.go ?_ (fun t k => XS.iload X255.here hx rfl (hb hby at_157) rfl k)
      show Gl _ _ _ _ (T255.setTop (mkF m 159 #[.val (.int u0), .val (.int u1), .val (.int u2), .val (.int (Int32.ofNat n)), .val (.int (1 : Int32)), .val (.int (1 : Int32)), .val (.ref ns), .val (.int (Int32.ofNat kx1)), .val (.int (Int32.ofNat ky1)), .val (.int (Int32.ofNat kx2)), .val (.int (Int32.ofNat ky2)), .val (.ref r255), .unset] [(.int (Int32.ofNat kx2)), (.ref ns), (.ref r255)]))
      have rd := RA.rd (hNS.ext OLD) rfl X255 hx hZ rfl (own_lo l_kx2 hn5) (own_hi l_kx2 hn5) (g := (mkF m 159 #[.val (.int u0), .val (.int u1), .val (.int u2), .val (.int (Int32.ofNat n)), .val (.int (1 : Int32)), .val (.int (1 : Int32)), .val (.ref ns), .val (.int (Int32.ofNat kx1)), .val (.int (Int32.ofNat ky1)), .val (.int (Int32.ofNat kx2)), .val (.int (Int32.ofNat ky2)), .val (.ref r255), .unset] [(.int (Int32.ofNat kx2)), (.ref ns), (.ref r255)])) rfl rfl (hb hby at_159)
      rw [own_tn (Nat.le_trans (Nat.le_of_lt l_kx2) hn5)] at rd
      refine Gl.go ?_ rd
      clear rd
      show Gl _ _ _ _ (T255.setTop (mkF m 160 _ [(.ref (A kx2)), (.ref r255)]))
      refine Gl.go ?_ (fun t k => XS.iconst X255.here hx rfl (hb hby at_160) k)
      show Gl _ _ _ _ (T255.setTop (mkF m 161 #[.val (.int u0), .val (.int u1), .val (.int u2), .val (.int (Int32.ofNat n)), .val (.int (1 : Int32)), .val (.int (1 : Int32)), .val (.ref ns), .val (.int (Int32.ofNat kx1)), .val (.int (Int32.ofNat ky1)), .val (.int (Int32.ofNat kx2)), .val (.int (Int32.ofNat ky2)), .val (.ref r255), .unset] [(.int (1 : Int32)), (.ref (A kx2)), (.ref r255)]))
      obtain ⟨T256, h256, k256, X256, e256, E256, A256, O256, st256⟩ := newR X255 hx hZ hown (hw _ (List.mem_of_getElem? (i := 4) rfl)) (hw _ (List.mem_of_getElem? (i := 5) rfl)) rfl (g := (mkF m 161 #[.val (.int u0), .val (.int u1), .val (.int u2), .val (.int (Int32.ofNat n)), .val (.int (1 : Int32)), .val (.int (1 : Int32)), .val (.ref ns), .val (.int (Int32.ofNat kx1)), .val (.int (Int32.ofNat ky1)), .val (.int (Int32.ofNat kx2)), .val (.int (Int32.ofNat ky2)), .val (.ref r255), .unset] [(.int (1 : Int32)), (.ref (A kx2)), (.ref r255)])) rfl (hb hby at_161) rfl (by decide) (cap := 1) (by decide) (by decide) (by decide) (by decide)
      obtain ⟨b256, g256⟩ : ∃ z, z = T255.heap.size := ⟨_, rfl⟩
      rw [← g256] at A256 st256
      have g_b256 : n0 ≤ b256 := Nat.le_trans Z0 (Nat.le_of_eq g256.symm)
      have sz_b256 : (T255.heap).size ≤ b256 := Nat.le_trans OLD.1 (Nat.le_of_eq g256.symm)
      have hi_b256 := Nat.le_trans hk (Nat.le_of_eq g256.symm)
      replace OLD := own_oext OLD E256
      replace hk := Nat.le_trans hk E256.1
      replace Z0 := Nat.le_trans Z0 E256.1
      have V_b256 : Arv Z h256 b256 k256 (.object "java/lang/String") (1 : Int32) [.null] .null := (Arv.new A256 (by decide)).pad (pad_rep [] .null 1)
      refine Gl.go ?_ st256
      show Gl _ _ _ _ (T256.setTop (mkF m 164 _ [(.ref b256), (.ref (A kx2)), (.ref r255)]))
      refine Gl.go ?_ (fun t k => XS.dup X256.here hx rfl (hb hby at_164) rfl rfl k)
      show Gl _ _ _ _ (T256.setTop (mkF m 165 _ [(.ref b256), (.ref b256), (.ref (A kx2)), (.ref r255)]))
      refine Gl.go ?_ (fun t k => XS.iconst X256.here hx rfl (hb hby at_165) k)
      show Gl _ _ _ _ (T256.setTop (mkF m 166 _ [(.int (0 : Int32)), (.ref b256), (.ref b256), (.ref (A kx2)), (.ref r255)]))
      refine Gl.go ?_ (fun t k => XS.aload X256.here hx rfl (hb hby at_166) rfl rfl k)
      show Gl _ _ _ _ (T256.setTop (mkF m 168 _ [(.ref ns), (.int (0 : Int32)), (.ref b256), (.ref b256), (.ref (A kx2)), (.ref r255)]))
      refine Gl.go ?_ (fun t k => XS.iload X256.here hx rfl (hb hby at_168) rfl k)
      show Gl _ _ _ _ (T256.setTop (mkF m 170 #[.val (.int u0), .val (.int u1), .val (.int u2), .val (.int (Int32.ofNat n)), .val (.int (1 : Int32)), .val (.int (1 : Int32)), .val (.ref ns), .val (.int (Int32.ofNat kx1)), .val (.int (Int32.ofNat ky1)), .val (.int (Int32.ofNat kx2)), .val (.int (Int32.ofNat ky2)), .val (.ref r255), .unset] [(.int (Int32.ofNat ky2)), (.ref ns), (.int (0 : Int32)), (.ref b256), (.ref b256), (.ref (A kx2)), (.ref r255)]))
      have rd := RA.rd (hNS.ext OLD) rfl X256 hx hZ e256 (own_lo l_ky2 hn5) (own_hi l_ky2 hn5) (g := (mkF m 170 #[.val (.int u0), .val (.int u1), .val (.int u2), .val (.int (Int32.ofNat n)), .val (.int (1 : Int32)), .val (.int (1 : Int32)), .val (.ref ns), .val (.int (Int32.ofNat kx1)), .val (.int (Int32.ofNat ky1)), .val (.int (Int32.ofNat kx2)), .val (.int (Int32.ofNat ky2)), .val (.ref r255), .unset] [(.int (Int32.ofNat ky2)), (.ref ns), (.int (0 : Int32)), (.ref b256), (.ref b256), (.ref (A kx2)), (.ref r255)])) rfl rfl (hb hby at_170)
      rw [own_tn (Nat.le_trans (Nat.le_of_lt l_ky2) hn5)] at rd
      refine Gl.go ?_ rd
      clear rd
      show Gl _ _ _ _ (T256.setTop (mkF m 171 #[.val (.int u0), .val (.int u1), .val (.int u2), .val (.int (Int32.ofNat n)), .val (.int (1 : Int32)), .val (.int (1 : Int32)), .val (.ref ns), .val (.int (Int32.ofNat kx1)), .val (.int (Int32.ofNat ky1)), .val (.int (Int32.ofNat kx2)), .val (.int (Int32.ofNat ky2)), .val (.ref r255), .unset] [(.ref (A ky2)), (.int (0 : Int32)), (.ref b256), (.ref b256), (.ref (A kx2)), (.ref r255)]))
      obtain ⟨cl257, Ar257, q257, S257, N257, Hh257, G257⟩ := V_b256
      obtain ⟨T257, h257, X257, e257, W257, st257⟩ := stR X256 hx hZ e256 Ar257 (j := (0 : Int32)) (inb_of S257 ⟨by decide, by decide⟩) rfl (Sto.ofV Ar257 q257 O256 (Ins.self (((hStr ky2 l_ky2).1).ext OLD))) (g := (mkF m 171 #[.val (.int u0), .val (.int u1), .val (.int u2), .val (.int (Int32.ofNat n)), .val (.int (1 : Int32)), .val (.int (1 : Int32)), .val (.ref ns), .val (.int (Int32.ofNat kx1)), .val (.int (Int32.ofNat ky1)), .val (.int (Int32.ofNat kx2)), .val (.int (Int32.ofNat ky2)), .val (.ref r255), .unset] [(.ref (A ky2)), (.int (0 : Int32)), (.ref b256), (.ref b256), (.ref (A kx2)), (.ref r255)])) rfl rfl (hb hby at_171)
      replace OLD := own_owr OLD W257 sz_b256
      replace hk := Nat.le_trans hk (Keep.of_wr W257).1
      replace Z0 := Nat.le_trans Z0 (Keep.of_wr W257).1
      have V_b256 : Arv Z h257 b256 k256 (.object "java/lang/String") (1 : Int32) [(.ref (A ky2))] .null := Arv.set Ar257 q257 S257 N257 Hh257 G257 rfl W257 0 rfl (Nat.le_of_ble_eq_true rfl)
      clear Hh257 G257 N257 S257 q257 W257
      clear Ar257
      clear cl257
      replace NF := Fr.snoc X257 NF g_b256
      refine Gl.go ?_ st257
      show Gl _ _ _ _ (T257.setTop (mkF m 172 #[.val (.int u0), .val (.int u1), .val (.int u2), .val (.int (Int32.ofNat n)), .val (.int (1 : Int32)), .val (.int (1 : Int32)), .val (.ref ns), .val (.int (Int32.ofNat kx1)), .val (.int (Int32.ofNat ky1)), .val (.int (Int32.ofNat kx2)), .val (.int (Int32.ofNat ky2)), .val (.ref r255), .unset] [(.ref b256), (.ref (A kx2)), (.ref r255)]))
      obtain ⟨cq258, kq258, q258a, q258b, q258c⟩ := isOf hZ e257 (E_act.ext OLD)
      obtain ⟨_, _, ⟨T258, L258, k258, n258⟩, -, X258, ⟨Lc258, hQ258, l258, y258, z258⟩, st258⟩ := X257.virtualBack hx (y := (⟨"com/example/grantline/grantline/engine/Actions", "withImplied", "(Ljava/lang/String;[Ljava/lang/String;)Lcom/example/grantline/grantline/engine/Actions;"⟩ : MethodName)) (z := (⟨"com/example/grantline/grantline/engine/Actions", "withImplied", "(Ljava/lang/String;[Ljava/lang/String;)Lcom/example/grantline/grantline/engine/Actions;"⟩ : MethodName)) hown (mvT hZ (hw _ (List.mem_of_getElem? (i := 85) rfl))) (mvT hZ (hw _ (List.mem_of_getElem? (i := 86) rfl))) (notFace_of_selects (args := #[]) (mvT hZ (hw _ (List.mem_of_getElem? (i := 88) rfl)))) (mvT hZ (hw _ (List.mem_of_getElem? (i := 88) rfl))) (mvT hZ (hw _ (List.mem_of_getElem? (i := 87) rfl))) (by decide) (backOf (W := 0) (rm_wi l Z a0 hw [] r255 b256 A n kx2 ky2 (own_upd (own_bits n) kx1 ky1) cs em ls252 ia255 h257 n0 Z0 (E_act.ext OLD) (F_nm.ext OLD) (F_im.ext OLD) (hIA.ext OLD) hl255 hn5 (hLK.ext OLD) (RA.of V_b256 1 rfl (own_lt1 rfl)) (S_EM.ext OLD) hem (fun i q => (hStr i q).ext OLD) (S_CS.ext OLD) hcs l_kx2 l_ky2) hZ (hw _ (List.mem_of_getElem? (i := 89) rfl)) (hw _ (List.mem_of_getElem? (i := 19) rfl)) (by decide) (by decide)) q258a q258c (g := (mkF m 172 #[.val (.int u0), .val (.int u1), .val (.int u2), .val (.int (Int32.ofNat n)), .val (.int (1 : Int32)), .val (.int (1 : Int32)), .val (.ref ns), .val (.int (Int32.ofNat kx1)), .val (.int (Int32.ofNat ky1)), .val (.int (Int32.ofNat kx2)), .val (.int (Int32.ofNat ky2)), .val (.ref r255), .unset] [(.ref b256), (.ref (A kx2)), (.ref r255)])) rfl (by rw [hml]; rfl) (Steps.refl _) (argsL := [(.ref (A kx2)), (.ref b256)]) (rest := []) (lenOf pd_15 rfl) rfl (by show 2 * 0 + _ ≤ _; exact Nat.le_of_eq rfl) (hb hby at_172) (fun _ _ => ⟨rfl, e257, (by decide : 19 + 2 ≤ _), (by decide : 68 + 7 ≤ _)⟩)
      dsimp only [Pt.U, Pt.locs, Pt.cells, Pt.slots] at X258 l258 y258 z258 st258 hQ258
      rw [l258, y258, z258] at X258
      clear l258 y258 z258
      obtain ⟨N258q, r258, ia258, rfl, EX258, ec258, fn258, fi258, iA258⟩ := hQ258
      replace NF := Fr.app NF N258q
      replace OLD := own_oext OLD EX258
      replace hk := Nat.le_trans hk EX258.1
      replace Z0 := Nat.le_trans Z0 EX258.1
      replace S_CS := S_CS.ext OLD
      replace S_EM := S_EM.ext OLD
      replace S_EL := S_EL.ext OLD
      replace hNS := hNS.ext OLD
      replace hLK := hLK.ext OLD
      replace hStr : ∀ i, i < n → StrIs Z T258.heap (A i) (own_ch i) := fun i q => (hStr i q).ext OLD
      replace OLD : Ext T258.heap T258.heap := own_erefl _
      replace E_act := ec258
      replace F_nm := fn258
      replace F_im := fi258
      replace hIA := iA258
      have hl258 : (own_upd (own_upd (own_bits n) kx1 ky1) kx2 ky2).length = n := (own_lenu _ _ _).trans hl255
      refine Gl.tr ?_ st258
      show Gl _ _ _ _ (T258.setTop (mkF m 175 #[.val (.int u0), .val (.int u1), .val (.int u2), .val (.int (Int32.ofNat n)), .val (.int (1 : Int32)), .val (.int (1 : Int32)), .val (.ref ns), .val (.int (Int32.ofNat kx1)), .val (.int (Int32.ofNat ky1)), .val (.int (Int32.ofNat kx2)), .val (.int (Int32.ofNat ky2)), .val (.ref r255), .unset] [(.ref r258)]))
      refine Gl.go ?_ (fun t k => XS.astore X258.here hx rfl (hb hby at_175) rfl rfl (l' := #[.val (.int u0), .val (.int u1), .val (.int u2), .val (.int (Int32.ofNat n)), .val (.int (1 : Int32)), .val (.int (1 : Int32)), .val (.ref ns), .val (.int (Int32.ofNat kx1)), .val (.int (Int32.ofNat ky1)), .val (.int (Int32.ofNat kx2)), .val (.int (Int32.ofNat ky2)), .val (.ref r258), .unset]) rfl k)
      show Gl _ _ _ _ (T258.setTop (mkF m 177 _ []))
      refine Gl.go ?_ (fun t k => XS.iloadN X258.here hx rfl (hb hby at_177) rfl k)
      show Gl _ _ _ _ (T258.setTop (mkF m 178 _ [(.int u0)]))
      refine Gl.go ?_ (fun t k => XS.iconst X258.here hx rfl (hb hby at_178) k)
      show Gl _ _ _ _ (T258.setTop (mkF m 179 _ [(.int (1 : Int32)), (.int u0)]))
      refine Gl.go ?_ (fun t k => XS.iloadN X258.here hx rfl (hb hby at_179) rfl k)
      show Gl _ _ _ _ (T258.setTop (mkF m 180 _ [(.int (Int32.ofNat n)), (.int (1 : Int32)), (.int u0)]))
      refine Gl.go ?_ (fun t k => XS.ishl X258.here hx rfl (hb hby at_180) rfl k)
      show Gl _ _ _ _ (T258.setTop (mkF m 181 _ [(.int ((1 : Int32) <<< ((Int32.ofNat n) &&& 31))), (.int u0)]))
      refine Gl.go ?_ (fun t k => XS.iconst X258.here hx rfl (hb hby at_181) k)
      show Gl _ _ _ _ (T258.setTop (mkF m 182 _ [(.int (1 : Int32)), (.int ((1 : Int32) <<< ((Int32.ofNat n) &&& 31))), (.int u0)]))
      refine Gl.go ?_ (fun t k => XS.isub X258.here hx rfl (hb hby at_182) rfl k)
      show Gl _ _ _ _ (T258.setTop (mkF m 183 _ [(.int (((1 : Int32) <<< ((Int32.ofNat n) &&& 31)) - (1 : Int32))), (.int u0)]))
      refine Gl.go ?_ (fun t k => XS.iand X258.here hx rfl (hb hby at_183) rfl k)
      show Gl _ _ _ _ (T258.setTop (mkF m 184 #[.val (.int u0), .val (.int u1), .val (.int u2), .val (.int (Int32.ofNat n)), .val (.int (1 : Int32)), .val (.int (1 : Int32)), .val (.ref ns), .val (.int (Int32.ofNat kx1)), .val (.int (Int32.ofNat ky1)), .val (.int (Int32.ofNat kx2)), .val (.int (Int32.ofNat ky2)), .val (.ref r258), .unset] [(.int (u0 &&& (((1 : Int32) <<< ((Int32.ofNat n) &&& 31)) - (1 : Int32))))]))
      refine Gl.go ?_ (fun t k => XS.istore X258.here hx rfl (hb hby at_184) rfl (l' := #[.val (.int u0), .val (.int u1), .val (.int u2), .val (.int (Int32.ofNat n)), .val (.int (1 : Int32)), .val (.int (1 : Int32)), .val (.ref ns), .val (.int (Int32.ofNat kx1)), .val (.int (Int32.ofNat ky1)), .val (.int (Int32.ofNat kx2)), .val (.int (Int32.ofNat ky2)), .val (.ref r258), .val (.int (u0 &&& (((1 : Int32) <<< ((Int32.ofNat n) &&& 31)) - (1 : Int32))))]) rfl k)
      show Gl _ _ _ _ (T258.setTop (mkF m 186 _ []))
      refine Gl.go ?_ (fun t k => XS.iload X258.here hx rfl (hb hby at_186) rfl k)
      show Gl _ _ _ _ (T258.setTop (mkF m 188 _ [(.int (1 : Int32))]))
      refine Gl.go ?_ (fun t k => XS.ifNo X258.here hx rfl (hb hby at_188) rfl ((if0 _ _).trans (feq (by decide : ¬ ((1 : Int32) = (0 : Int32)))).1) k)
      show Gl _ _ _ _ (T258.setTop (mkF m 191 _ []))
      refine Gl.go ?_ (fun t k => XS.iloadN X258.here hx rfl (hb hby at_191) rfl k)
      show Gl _ _ _ _ (T258.setTop (mkF m 192 _ [(.int u0)]))
      refine Gl.go ?_ (fun t k => XS.iconst X258.here hx rfl (hb hby at_192) k)
      show Gl _ _ _ _ (T258.setTop (mkF m 193 _ [(.int (1 : Int32)), (.int u0)]))
      refine Gl.go ?_ (fun t k => XS.iload X258.here hx rfl (hb hby at_193) rfl k)
      show Gl _ _ _ _ (T258.setTop (mkF m 195 _ [(.int (Int32.ofNat ky1)), (.int (1 : Int32)), (.int u0)]))
      refine Gl.go ?_ (fun t k => XS.ishl X258.here hx rfl (hb hby at_195) rfl k)
      show Gl _ _ _ _ (T258.setTop (mkF m 196 _ [(.int ((1 : Int32) <<< ((Int32.ofNat ky1) &&& 31))), (.int u0)]))
      refine Gl.go ?_ (fun t k => XS.iand X258.here hx rfl (hb hby at_196) rfl k)
      show Gl _ _ _ _ (T258.setTop (mkF m 197 _ [(.int (u0 &&& ((1 : Int32) <<< ((Int32.ofNat ky1) &&& 31))))]))
      by_cases hc259 : (u0 &&& ((1 : Int32) <<< ((Int32.ofNat ky1) &&& 31))) = (0 : Int32)
      · refine Gl.go ?_ (fun t k => XS.ifYes X258.here hx rfl (pc0 := 197) (pc' := 209) rfl (hb hby at_197) rfl ((if0 _ _).trans (teq hc259).1) (by decide) (by decide) k)
        show Gl _ _ _ _ (T258.setTop (mkF m 209 _ []))
        refine Gl.go ?_ (fun t k => XS.iload X258.here hx rfl (hb hby at_209) rfl k)
        show Gl _ _ _ _ (T258.setTop (mkF m 211 _ [(.int (1 : Int32))]))
        refine Gl.go ?_ (fun t k => XS.ifNo X258.here hx rfl (hb hby at_211) rfl ((if0 _ _).trans (feq (by decide : ¬ ((1 : Int32) = (0 : Int32)))).1) k)
        show Gl _ _ _ _ (T258.setTop (mkF m 214 _ []))
        refine Gl.go ?_ (fun t k => XS.iloadN X258.here hx rfl (hb hby at_214) rfl k)
        show Gl _ _ _ _ (T258.setTop (mkF m 215 _ [(.int u0)]))
        refine Gl.go ?_ (fun t k => XS.iconst X258.here hx rfl (hb hby at_215) k)
        show Gl _ _ _ _ (T258.setTop (mkF m 216 _ [(.int (1 : Int32)), (.int u0)]))
        refine Gl.go ?_ (fun t k => XS.iload X258.here hx rfl (hb hby at_216) rfl k)
        show Gl _ _ _ _ (T258.setTop (mkF m 218 _ [(.int (Int32.ofNat ky2)), (.int (1 : Int32)), (.int u0)]))
        refine Gl.go ?_ (fun t k => XS.ishl X258.here hx rfl (hb hby at_218) rfl k)
        show Gl _ _ _ _ (T258.setTop (mkF m 219 _ [(.int ((1 : Int32) <<< ((Int32.ofNat ky2) &&& 31))), (.int u0)]))
        refine Gl.go ?_ (fun t k => XS.iand X258.here hx rfl (hb hby at_219) rfl k)
        show Gl _ _ _ _ (T258.setTop (mkF m 220 _ [(.int (u0 &&& ((1 : Int32) <<< ((Int32.ofNat ky2) &&& 31))))]))
        by_cases hc260 : (u0 &&& ((1 : Int32) <<< ((Int32.ofNat ky2) &&& 31))) = (0 : Int32)
        · refine Gl.go ?_ (fun t k => XS.ifYes X258.here hx rfl (pc0 := 220) (pc' := 232) rfl (hb hby at_220) rfl ((if0 _ _).trans (teq hc260).1) (by decide) (by decide) k)
          show Gl _ _ _ _ (T258.setTop (mkF m 232 _ []))
          refine Gl.go ?_ (fun t k => XS.aload X258.here hx rfl (hb hby at_232) rfl rfl k)
          show Gl _ _ _ _ (T258.setTop (mkF m 234 _ [(.ref r258)]))
          refine Gl.go ?_ (fun t k => XS.iloadN X258.here hx rfl (hb hby at_234) rfl k)
          show Gl _ _ _ _ (T258.setTop (mkF m 235 #[.val (.int u0), .val (.int u1), .val (.int u2), .val (.int (Int32.ofNat n)), .val (.int (1 : Int32)), .val (.int (1 : Int32)), .val (.ref ns), .val (.int (Int32.ofNat kx1)), .val (.int (Int32.ofNat ky1)), .val (.int (Int32.ofNat kx2)), .val (.int (Int32.ofNat ky2)), .val (.ref r258), .val (.int (u0 &&& (((1 : Int32) <<< ((Int32.ofNat n) &&& 31)) - (1 : Int32))))] [(.int u0), (.ref r258)]))
          obtain ⟨cq261, kq261, q261a, q261b, q261c⟩ := isOf hZ rfl (E_act.ext OLD)
          obtain ⟨_, _, ⟨T261, L261, k261, n261⟩, -, X261, ⟨Lc261, hQ261, l261, y261, z261⟩, st261⟩ := X258.virtualBack hx (y := (⟨"com/example/grantline/grantline/engine/Actions", "impliedMask", "(I)I"⟩ : MethodName)) (z := (⟨"com/example/grantline/grantline/engine/Actions", "impliedMask", "(I)I"⟩ : MethodName)) hown (mvT hZ (hw _ (List.mem_of_getElem? (i := 79) rfl))) (mvT hZ (hw _ (List.mem_of_getElem? (i := 80) rfl))) (notFace_of_selects (args := #[]) (mvT hZ (hw _ (List.mem_of_getElem? (i := 82) rfl)))) (mvT hZ (hw _ (List.mem_of_getElem? (i := 82) rfl))) (mvT hZ (hw _ (List.mem_of_getElem? (i := 81) rfl))) (by decide) (backOf (W := 0) (rm12 l Z a0 hw [] r258 u0 ia258 n (Int32.ofNat n) (nth (own_upd (own_upd (own_bits n) kx1 ky1) kx2 ky2)) T258.heap (F_im.ext OLD) (IA.ba (hIA.ext OLD) n hl258 hn5) (own_ton hn5)) hZ (hw _ (List.mem_of_getElem? (i := 83) rfl)) (hw _ (List.mem_of_getElem? (i := 19) rfl)) (by decide) (by decide)) q261a q261c (g := (mkF m 235 #[.val (.int u0), .val (.int u1), .val (.int u2), .val (.int (Int32.ofNat n)), .val (.int (1 : Int32)), .val (.int (1 : Int32)), .val (.ref ns), .val (.int (Int32.ofNat kx1)), .val (.int (Int32.ofNat ky1)), .val (.int (Int32.ofNat kx2)), .val (.int (Int32.ofNat ky2)), .val (.ref r258), .val (.int (u0 &&& (((1 : Int32) <<< ((Int32.ofNat n) &&& 31)) - (1 : Int32))))] [(.int u0), (.ref r258)])) rfl (by rw [hml]; rfl) (Steps.refl _) (argsL := [(.int u0)]) (rest := []) (lenOf pd_14 rfl) rfl (by show 2 * 0 + _ ≤ _; exact Nat.le_of_eq rfl) (hb hby at_235) (fun _ _ => ⟨rfl, rfl, (by decide : 21 + 0 ≤ _), (by decide : 75 + 0 ≤ _)⟩)
          dsimp only [Pt.U, Pt.locs, Pt.cells, Pt.slots] at X261 l261 y261 z261 st261 hQ261
          rw [l261, y261, z261] at X261
          clear l261 y261 z261
          obtain ⟨rfl, rfl, e261⟩ := hQ261
          replace NF := Fr.app NF (Fr.nil n0)
          refine Gl.tr ?_ st261
          show Gl _ _ _ _ (T261.setTop (mkF m 238 _ [(.int (f_mask u0 n (nth (own_upd (own_upd (own_bits n) kx1 ky1) kx2 ky2))))]))
          refine Gl.go ?_ (fun t k => XS.iload X261.here hx rfl (hb hby at_238) rfl k)
          show Gl _ _ _ _ (T261.setTop (mkF m 240 _ [(.int (u0 &&& (((1 : Int32) <<< ((Int32.ofNat n) &&& 31)) - (1 : Int32)))), (.int (f_mask u0 n (nth (own_upd (own_upd (own_bits n) kx1 ky1) kx2 ky2))))]))
          refine Gl.go ?_ (fun t k => XS.icmpNo X261.here hx rfl (hb hby at_240) rfl (teq (((own_f1 u0 kx2 hl255 hc260 l_ky2 hn5).trans ((own_f1 u0 kx1 hlx hc259 l_ky1 hn5).trans (own_f0 u0 hn5))))).2 k)
          show Gl _ _ _ _ (T261.setTop (mkF m 243 _ []))
          refine Gl.go ?_ (fun t k => XS.iconst X261.here hx rfl (hb hby at_243) k)
          show Gl _ _ _ _ (T261.setTop (mkF m 244 _ [(.int (1 : Int32))]))
          refine Gl.go ?_ (fun t k => XS.goto X261.here hx rfl (pc0 := 244) (pc' := 248) rfl (hb hby at_244) (by decide) (by decide) k)
          show Gl _ _ _ _ (T261.setTop (mkF m 248 _ [(.int (1 : Int32))]))
          obtain ⟨fs, hr, hrun, hended, -, hW, hpp, hsame⟩ := Stand.leaveW (s := s) (vm₁ := T250.vm) X261 hS (by rw [e261]; exact hk) (v := some (.int (1 : Int32))) (fun h => by rw [Bd.returns] at h; cases h) (BodyLoose.notSynchronized Bd)
          exact Gl.mk ⟨_, _, retN X261 hx (t := .boolean) Bd.returns (by simp) (hb hby at_248) hr, hrun, hended, _, _, rfl, ⟨rfl, NF⟩, ⟨_, rfl⟩, hW, hpp, hsame.mono (by decide) (by decide)⟩
        · refine Gl.go ?_ (fun t k => XS.ifNo X258.here hx rfl (hb hby at_220) rfl ((if0 _ _).trans (feq hc260).1) k)
          show Gl _ _ _ _ (T258.setTop (mkF m 223 _ []))
          refine Gl.go ?_ (fun t k => XS.iload X258.here hx rfl (hb hby at_223) rfl k)
          show Gl _ _ _ _ (T258.setTop (mkF m 225 _ [(.int (u0 &&& (((1 : Int32) <<< ((Int32.ofNat n) &&& 31)) - (1 : Int32))))]))
          refine Gl.go ?_ (fun t k => XS.iconst X258.here hx rfl (hb hby at_225) k)
          show Gl _ _ _ _ (T258.setTop (mkF m 226 _ [(.int (1 : Int32)), (.int (u0 &&& (((1 : Int32) <<< ((Int32.ofNat n) &&& 31)) - (1 : Int32))))]))
          refine Gl.go ?_ (fun t k => XS.iload X258.here hx rfl (hb hby at_226) rfl k)
          show Gl _ _ _ _ (T258.setTop (mkF m 228 _ [(.int (Int32.ofNat kx2)), (.int (1 : Int32)), (.int (u0 &&& (((1 : Int32) <<< ((Int32.ofNat n) &&& 31)) - (1 : Int32))))]))
          refine Gl.go ?_ (fun t k => XS.ishl X258.here hx rfl (hb hby at_228) rfl k)
          show Gl _ _ _ _ (T258.setTop (mkF m 229 _ [(.int ((1 : Int32) <<< ((Int32.ofNat kx2) &&& 31))), (.int (u0 &&& (((1 : Int32) <<< ((Int32.ofNat n) &&& 31)) - (1 : Int32))))]))
          refine Gl.go ?_ (fun t k => XS.ior X258.here hx rfl (hb hby at_229) rfl k)
          show Gl _ _ _ _ (T258.setTop (mkF m 230 #[.val (.int u0), .val (.int u1), .val (.int u2), .val (.int (Int32.ofNat n)), .val (.int (1 : Int32)), .val (.int (1 : Int32)), .val (.ref ns), .val (.int (Int32.ofNat kx1)), .val (.int (Int32.ofNat ky1)), .val (.int (Int32.ofNat kx2)), .val (.int (Int32.ofNat ky2)), .val (.ref r258), .val (.int (u0 &&& (((1 : Int32) <<< ((Int32.ofNat n) &&& 31)) - (1 : Int32))))] [(.int ((u0 &&& (((1 : Int32) <<< ((Int32.ofNat n) &&& 31)) - (1 : Int32))) ||| ((1 : Int32) <<< ((Int32.ofNat kx2) &&& 31))))]))
          refine Gl.go ?_ (fun t k => XS.istore X258.here hx rfl (hb hby at_230) rfl (l' := #[.val (.int u0), .val (.int u1), .val (.int u2), .val (.int (Int32.ofNat n)), .val (.int (1 : Int32)), .val (.int (1 : Int32)), .val (.ref ns), .val (.int (Int32.ofNat kx1)), .val (.int (Int32.ofNat ky1)), .val (.int (Int32.ofNat kx2)), .val (.int (Int32.ofNat ky2)), .val (.ref r258), .val (.int ((u0 &&& (((1 : Int32) <<< ((Int32.ofNat n) &&& 31)) - (1 : Int32))) ||| ((1 : Int32) <<< ((Int32.ofNat kx2) &&& 31))))]) rfl k)
          show Gl _ _ _ _ (T258.setTop (mkF m 232 _ []))
          refine Gl.go ?_ (fun t k => XS.aload X258.here hx rfl (hb hby at_232) rfl rfl k)
          show Gl _ _ _ _ (T258.setTop (mkF m 234 _ [(.ref r258)]))
          refine Gl.go ?_ (fun t k => XS.iloadN X258.here hx rfl (hb hby at_234) rfl k)
          show Gl _ _ _ _ (T258.setTop (mkF m 235 #[.val (.int u0), .val (.int u1), .val (.int u2), .val (.int (Int32.ofNat n)), .val (.int (1 : Int32)), .val (.int (1 : Int32)), .val (.ref ns), .val (.int (Int32.ofNat kx1)), .val (.int (Int32.ofNat ky1)), .val (.int (Int32.ofNat kx2)), .val (.int (Int32.ofNat ky2)), .val (.ref r258), .val (.int ((u0 &&& (((1 : Int32) <<< ((Int32.ofNat n) &&& 31)) - (1 : Int32))) ||| ((1 : Int32) <<< ((Int32.ofNat kx2) &&& 31))))] [(.int u0), (.ref r258)]))
          obtain ⟨cq262, kq262, q262a, q262b, q262c⟩ := isOf hZ rfl (E_act.ext OLD)
          obtain ⟨_, _, ⟨T262, L262, k262, n262⟩, -, X262, ⟨Lc262, hQ262, l262, y262, z262⟩, st262⟩ := X258.virtualBack hx (y := (⟨"com/example/grantline/grantline/engine/Actions", "impliedMask", "(I)I"⟩ : MethodName)) (z := (⟨"com/example/grantline/grantline/engine/Actions", "impliedMask", "(I)I"⟩ : MethodName)) hown (mvT hZ (hw _ (List.mem_of_getElem? (i := 79) rfl))) (mvT hZ (hw _ (List.mem_of_getElem? (i := 80) rfl))) (notFace_of_selects (args := #[]) (mvT hZ (hw _ (List.mem_of_getElem? (i := 82) rfl)))) (mvT hZ (hw _ (List.mem_of_getElem? (i := 82) rfl))) (mvT hZ (hw _ (List.mem_of_getElem? (i := 81) rfl))) (by decide) (backOf (W := 0) (rm12 l Z a0 hw [] r258 u0 ia258 n (Int32.ofNat n) (nth (own_upd (own_upd (own_bits n) kx1 ky1) kx2 ky2)) T258.heap (F_im.ext OLD) (IA.ba (hIA.ext OLD) n hl258 hn5) (own_ton hn5)) hZ (hw _ (List.mem_of_getElem? (i := 83) rfl)) (hw _ (List.mem_of_getElem? (i := 19) rfl)) (by decide) (by decide)) q262a q262c (g := (mkF m 235 #[.val (.int u0), .val (.int u1), .val (.int u2), .val (.int (Int32.ofNat n)), .val (.int (1 : Int32)), .val (.int (1 : Int32)), .val (.ref ns), .val (.int (Int32.ofNat kx1)), .val (.int (Int32.ofNat ky1)), .val (.int (Int32.ofNat kx2)), .val (.int (Int32.ofNat ky2)), .val (.ref r258), .val (.int ((u0 &&& (((1 : Int32) <<< ((Int32.ofNat n) &&& 31)) - (1 : Int32))) ||| ((1 : Int32) <<< ((Int32.ofNat kx2) &&& 31))))] [(.int u0), (.ref r258)])) rfl (by rw [hml]; rfl) (Steps.refl _) (argsL := [(.int u0)]) (rest := []) (lenOf pd_14 rfl) rfl (by show 2 * 0 + _ ≤ _; exact Nat.le_of_eq rfl) (hb hby at_235) (fun _ _ => ⟨rfl, rfl, (by decide : 21 + 0 ≤ _), (by decide : 75 + 0 ≤ _)⟩)
          dsimp only [Pt.U, Pt.locs, Pt.cells, Pt.slots] at X262 l262 y262 z262 st262 hQ262
          rw [l262, y262, z262] at X262
          clear l262 y262 z262
          obtain ⟨rfl, rfl, e262⟩ := hQ262
          replace NF := Fr.app NF (Fr.nil n0)
          refine Gl.tr ?_ st262
          show Gl _ _ _ _ (T262.setTop (mkF m 238 _ [(.int (f_mask u0 n (nth (own_upd (own_upd (own_bits n) kx1 ky1) kx2 ky2))))]))
          refine Gl.go ?_ (fun t k => XS.iload X262.here hx rfl (hb hby at_238) rfl k)
          show Gl _ _ _ _ (T262.setTop (mkF m 240 _ [(.int ((u0 &&& (((1 : Int32) <<< ((Int32.ofNat n) &&& 31)) - (1 : Int32))) ||| ((1 : Int32) <<< ((Int32.ofNat kx2) &&& 31)))), (.int (f_mask u0 n (nth (own_upd (own_upd (own_bits n) kx1 ky1) kx2 ky2))))]))
          refine Gl.go ?_ (fun t k => XS.icmpNo X262.here hx rfl (hb hby at_240) rfl (teq (((own_f2 u0 kx2 hl255 hc260 l_ky2 hn5).trans (own_or ((own_f1 u0 kx1 hlx hc259 l_ky1 hn5).trans (own_f0 u0 hn5)))))).2 k)
          show Gl _ _ _ _ (T262.setTop (mkF m 243 _ []))
          refine Gl.go ?_ (fun t k => XS.iconst X262.here hx rfl (hb hby at_243) k)
          show Gl _ _ _ _ (T262.setTop (mkF m 244 _ [(.int (1 : Int32))]))
          refine Gl.go ?_ (fun t k => XS.goto X262.here hx rfl (pc0 := 244) (pc' := 248) rfl (hb hby at_244) (by decide) (by decide) k)
          show Gl _ _ _ _ (T262.setTop (mkF m 248 _ [(.int (1 : Int32))]))
          obtain ⟨fs, hr, hrun, hended, -, hW, hpp, hsame⟩ := Stand.leaveW (s := s) (vm₁ := T250.vm) X262 hS (by rw [e262]; exact hk) (v := some (.int (1 : Int32))) (fun h => by rw [Bd.returns] at h; cases h) (BodyLoose.notSynchronized Bd)
          exact Gl.mk ⟨_, _, retN X262 hx (t := .boolean) Bd.returns (by simp) (hb hby at_248) hr, hrun, hended, _, _, rfl, ⟨rfl, NF⟩, ⟨_, rfl⟩, hW, hpp, hsame.mono (by decide) (by decide)⟩
      · refine Gl.go ?_ (fun t k => XS.ifNo X258.here hx rfl (hb hby at_197) rfl ((if0 _ _).trans (feq hc259).1) k)
        show Gl _ _ _ _ (T258.setTop (mkF m 200 _ []))
        refine Gl.go ?_ (fun t k => XS.iload X258.here hx rfl (hb hby at_200) rfl k)
        show Gl _ _ _ _ (T258.setTop (mkF m 202 _ [(.int (u0 &&& (((1 : Int32) <<< ((Int32.ofNat n) &&& 31)) - (1 : Int32))))]))
        refine Gl.go ?_ (fun t k => XS.iconst X258.here hx rfl (hb hby at_202) k)
        show Gl _ _ _ _ (T258.setTop (mkF m 203 _ [(.int (1 : Int32)), (.int (u0 &&& (((1 : Int32) <<< ((Int32.ofNat n) &&& 31)) - (1 : Int32))))]))
        refine Gl.go ?_ (fun t k => XS.iload X258.here hx rfl (hb hby at_203) rfl k)
        show Gl _ _ _ _ (T258.setTop (mkF m 205 _ [(.int (Int32.ofNat kx1)), (.int (1 : Int32)), (.int (u0 &&& (((1 : Int32) <<< ((Int32.ofNat n) &&& 31)) - (1 : Int32))))]))
        refine Gl.go ?_ (fun t k => XS.ishl X258.here hx rfl (hb hby at_205) rfl k)
        show Gl _ _ _ _ (T258.setTop (mkF m 206 _ [(.int ((1 : Int32) <<< ((Int32.ofNat kx1) &&& 31))), (.int (u0 &&& (((1 : Int32) <<< ((Int32.ofNat n) &&& 31)) - (1 : Int32))))]))
        refine Gl.go ?_ (fun t k => XS.ior X258.here hx rfl (hb hby at_206) rfl k)
        show Gl _ _ _ _ (T258.setTop (mkF m 207 #[.val (.int u0), .val (.int u1), .val (.int u2), .val (.int (Int32.ofNat n)), .val (.int (1 : Int32)), .val (.int (1 : Int32)), .val (.ref ns), .val (.int (Int32.ofNat kx1)), .val (.int (Int32.ofNat ky1)), .val (.int (Int32.ofNat kx2)), .val (.int (Int32.ofNat ky2)), .val (.ref r258), .val (.int (u0 &&& (((1 : Int32) <<< ((Int32.ofNat n) &&& 31)) - (1 : Int32))))] [(.int ((u0 &&& (((1 : Int32) <<< ((Int32.ofNat n) &&& 31)) - (1 : Int32))) ||| ((1 : Int32) <<< ((Int32.ofNat kx1) &&& 31))))]))
        refine Gl.go ?_ (fun t k => XS.istore X258.here hx rfl (hb hby at_207) rfl (l' := #[.val (.int u0), .val (.int u1), .val (.int u2), .val (.int (Int32.ofNat n)), .val (.int (1 : Int32)), .val (.int (1 : Int32)), .val (.ref ns), .val (.int (Int32.ofNat kx1)), .val (.int (Int32.ofNat ky1)), .val (.int (Int32.ofNat kx2)), .val (.int (Int32.ofNat ky2)), .val (.ref r258), .val (.int ((u0 &&& (((1 : Int32) <<< ((Int32.ofNat n) &&& 31)) - (1 : Int32))) ||| ((1 : Int32) <<< ((Int32.ofNat kx1) &&& 31))))]) rfl k)
        show Gl _ _ _ _ (T258.setTop (mkF m 209 _ []))
        refine Gl.go ?_ (fun t k => XS.iload X258.here hx rfl (hb hby at_209) rfl k)
        show Gl _ _ _ _ (T258.setTop (mkF m 211 _ [(.int (1 : Int32))]))
        refine Gl.go ?_ (fun t k => XS.ifNo X258.here hx rfl (hb hby at_211) rfl ((if0 _ _).trans (feq (by decide : ¬ ((1 : Int32) = (0 : Int32)))).1) k)
        show Gl _ _ _ _ (T258.setTop (mkF m 214 _ []))
        refine Gl.go ?_ (fun t k => XS.iloadN X258.here hx rfl (hb hby at_214) rfl k)
        show Gl _ _ _ _ (T258.setTop (mkF m 215 _ [(.int u0)]))
        refine Gl.go ?_ (fun t k => XS.iconst X258.here hx rfl (hb hby at_215) k)
        show Gl _ _ _ _ (T258.setTop (mkF m 216 _ [(.int (1 : Int32)), (.int u0)]))
        refine Gl.go ?_ (fun t k => XS.iload X258.here hx rfl (hb hby at_216) rfl k)
        show Gl _ _ _ _ (T258.setTop (mkF m 218 _ [(.int (Int32.ofNat ky2)), (.int (1 : Int32)), (.int u0)]))
        refine Gl.go ?_ (fun t k => XS.ishl X258.here hx rfl (hb hby at_218) rfl k)
        show Gl _ _ _ _ (T258.setTop (mkF m 219 _ [(.int ((1 : Int32) <<< ((Int32.ofNat ky2) &&& 31))), (.int u0)]))
        refine Gl.go ?_ (fun t k => XS.iand X258.here hx rfl (hb hby at_219) rfl k)
        show Gl _ _ _ _ (T258.setTop (mkF m 220 _ [(.int (u0 &&& ((1 : Int32) <<< ((Int32.ofNat ky2) &&& 31))))]))
        by_cases hc263 : (u0 &&& ((1 : Int32) <<< ((Int32.ofNat ky2) &&& 31))) = (0 : Int32)
        · refine Gl.go ?_ (fun t k => XS.ifYes X258.here hx rfl (pc0 := 220) (pc' := 232) rfl (hb hby at_220) rfl ((if0 _ _).trans (teq hc263).1) (by decide) (by decide) k)
          show Gl _ _ _ _ (T258.setTop (mkF m 232 _ []))
          refine Gl.go ?_ (fun t k => XS.aload X258.here hx rfl (hb hby at_232) rfl rfl k)
          show Gl _ _ _ _ (T258.setTop (mkF m 234 _ [(.ref r258)]))
          refine Gl.go ?_ (fun t k => XS.iloadN X258.here hx rfl (hb hby at_234) rfl k)
          show Gl _ _ _ _ (T258.setTop (mkF m 235 #[.val (.int u0), .val (.int u1), .val (.int u2), .val (.int (Int32.ofNat n)), .val (.int (1 : Int32)), .val (.int (1 : Int32)), .val (.ref ns), .val (.int (Int32.ofNat kx1)), .val (.int (Int32.ofNat ky1)), .val (.int (Int32.ofNat kx2)), .val (.int (Int32.ofNat ky2)), .val (.ref r258), .val (.int ((u0 &&& (((1 : Int32) <<< ((Int32.ofNat n) &&& 31)) - (1 : Int32))) ||| ((1 : Int32) <<< ((Int32.ofNat kx1) &&& 31))))] [(.int u0), (.ref r258)]))
          obtain ⟨cq264, kq264, q264a, q264b, q264c⟩ := isOf hZ rfl (E_act.ext OLD)
          obtain ⟨_, _, ⟨T264, L264, k264, n264⟩, -, X264, ⟨Lc264, hQ264, l264, y264, z264⟩, st264⟩ := X258.virtualBack hx (y := (⟨"com/example/grantline/grantline/engine/Actions", "impliedMask", "(I)I"⟩ : MethodName)) (z := (⟨"com/example/grantline/grantline/engine/Actions", "impliedMask", "(I)I"⟩ : MethodName)) hown (mvT hZ (hw _ (List.mem_of_getElem? (i := 79) rfl))) (mvT hZ (hw _ (List.mem_of_getElem? (i := 80) rfl))) (notFace_of_selects (args := #[]) (mvT hZ (hw _ (List.mem_of_getElem? (i := 82) rfl)))) (mvT hZ (hw _ (List.mem_of_getElem? (i := 82) rfl))) (mvT hZ (hw _ (List.mem_of_getElem? (i := 81) rfl))) (by decide) (backOf (W := 0) (rm12 l Z a0 hw [] r258 u0 ia258 n (Int32.ofNat n) (nth (own_upd (own_upd (own_bits n) kx1 ky1) kx2 ky2)) T258.heap (F_im.ext OLD) (IA.ba (hIA.ext OLD) n hl258 hn5) (own_ton hn5)) hZ (hw _ (List.mem_of_getElem? (i := 83) rfl)) (hw _ (List.mem_of_getElem? (i := 19) rfl)) (by decide) (by decide)) q264a q264c (g := (mkF m 235 #[.val (.int u0), .val (.int u1), .val (.int u2), .val (.int (Int32.ofNat n)), .val (.int (1 : Int32)), .val (.int (1 : Int32)), .val (.ref ns), .val (.int (Int32.ofNat kx1)), .val (.int (Int32.ofNat ky1)), .val (.int (Int32.ofNat kx2)), .val (.int (Int32.ofNat ky2)), .val (.ref r258), .val (.int ((u0 &&& (((1 : Int32) <<< ((Int32.ofNat n) &&& 31)) - (1 : Int32))) ||| ((1 : Int32) <<< ((Int32.ofNat kx1) &&& 31))))] [(.int u0), (.ref r258)])) rfl (by rw [hml]; rfl) (Steps.refl _) (argsL := [(.int u0)]) (rest := []) (lenOf pd_14 rfl) rfl (by show 2 * 0 + _ ≤ _; exact Nat.le_of_eq rfl) (hb hby at_235) (fun _ _ => ⟨rfl, rfl, (by decide : 21 + 0 ≤ _), (by decide : 75 + 0 ≤ _)⟩)
          dsimp only [Pt.U, Pt.locs, Pt.cells, Pt.slots] at X264 l264 y264 z264 st264 hQ264
          rw [l264, y264, z264] at X264
          clear l264 y264 z264
          obtain ⟨rfl, rfl, e264⟩ := hQ264
          replace NF := Fr.app NF (Fr.nil n0)
          refine Gl.tr ?_ st264
          show Gl _ _ _ _ (T264.setTop (mkF m 238 _ [(.int (f_mask u0 n (nth (own_upd (own_upd (own_bits n) kx1 ky1) kx2 ky2))))]))
          refine Gl.go ?_ (fun t k => XS.iload X264.here hx rfl (hb hby at_238) rfl k)
          show Gl _ _ _ _ (T264.setTop (mkF m 240 _ [(.int ((u0 &&& (((1 : Int32) <<< ((Int32.ofNat n) &&& 31)) - (1 : Int32))) ||| ((1 : Int32) <<< ((Int32.ofNat kx1) &&& 31)))), (.int (f_mask u0 n (nth (own_upd (own_upd (own_bits n) kx1 ky1) kx2 ky2))))]))
          refine Gl.go ?_ (fun t k => XS.icmpNo X264.here hx rfl (hb hby at_240) rfl (teq (((own_f1 u0 kx2 hl255 hc263 l_ky2 hn5).trans ((own_f2 u0 kx1 hlx hc259 l_ky1 hn5).trans (own_or (own_f0 u0 hn5)))))).2 k)
          show Gl _ _ _ _ (T264.setTop (mkF m 243 _ []))
          refine Gl.go ?_ (fun t k => XS.iconst X264.here hx rfl (hb hby at_243) k)
          show Gl _ _ _ _ (T264.setTop (mkF m 244 _ [(.int (1 : Int32))]))
          refine Gl.go ?_ (fun t k => XS.goto X264.here hx rfl (pc0 := 244) (pc' := 248) rfl (hb hby at_244) (by decide) (by decide) k)
          show Gl _ _ _ _ (T264.setTop (mkF m 248 _ [(.int (1 : Int32))]))
          obtain ⟨fs, hr, hrun, hended, -, hW, hpp, hsame⟩ := Stand.leaveW (s := s) (vm₁ := T250.vm) X264 hS (by rw [e264]; exact hk) (v := some (.int (1 : Int32))) (fun h => by rw [Bd.returns] at h; cases h) (BodyLoose.notSynchronized Bd)
          exact Gl.mk ⟨_, _, retN X264 hx (t := .boolean) Bd.returns (by simp) (hb hby at_248) hr, hrun, hended, _, _, rfl, ⟨rfl, NF⟩, ⟨_, rfl⟩, hW, hpp, hsame.mono (by decide) (by decide)⟩
        · refine Gl.go ?_ (fun t k => XS.ifNo X258.here hx rfl (hb hby at_220) rfl ((if0 _ _).trans (feq hc263).1) k)
          show Gl _ _ _ _ (T258.setTop (mkF m 223 _ []))
          refine Gl.go ?_ (fun t k => XS.iload X258.here hx rfl (hb hby at_223) rfl k)
          show Gl _ _ _ _ (T258.setTop (mkF m 225 _ [(.int ((u0 &&& (((1 : Int32) <<< ((Int32.ofNat n) &&& 31)) - (1 : Int32))) ||| ((1 : Int32) <<< ((Int32.ofNat kx1) &&& 31))))]))
          refine Gl.go ?_ (fun t k => XS.iconst X258.here hx rfl (hb hby at_225) k)
          show Gl _ _ _ _ (T258.setTop (mkF m 226 _ [(.int (1 : Int32)), (.int ((u0 &&& (((1 : Int32) <<< ((Int32.ofNat n) &&& 31)) - (1 : Int32))) ||| ((1 : Int32) <<< ((Int32.ofNat kx1) &&& 31))))]))
          refine Gl.go ?_ (fun t k => XS.iload X258.here hx rfl (hb hby at_226) rfl k)
          show Gl _ _ _ _ (T258.setTop (mkF m 228 _ [(.int (Int32.ofNat kx2)), (.int (1 : Int32)), (.int ((u0 &&& (((1 : Int32) <<< ((Int32.ofNat n) &&& 31)) - (1 : Int32))) ||| ((1 : Int32) <<< ((Int32.ofNat kx1) &&& 31))))]))
          refine Gl.go ?_ (fun t k => XS.ishl X258.here hx rfl (hb hby at_228) rfl k)
          show Gl _ _ _ _ (T258.setTop (mkF m 229 _ [(.int ((1 : Int32) <<< ((Int32.ofNat kx2) &&& 31))), (.int ((u0 &&& (((1 : Int32) <<< ((Int32.ofNat n) &&& 31)) - (1 : Int32))) ||| ((1 : Int32) <<< ((Int32.ofNat kx1) &&& 31))))]))
          refine Gl.go ?_ (fun t k => XS.ior X258.here hx rfl (hb hby at_229) rfl k)
          show Gl _ _ _ _ (T258.setTop (mkF m 230 #[.val (.int u0), .val (.int u1), .val (.int u2), .val (.int (Int32.ofNat n)), .val (.int (1 : Int32)), .val (.int (1 : Int32)), .val (.ref ns), .val (.int (Int32.ofNat kx1)), .val (.int (Int32.ofNat ky1)), .val (.int (Int32.ofNat kx2)), .val (.int (Int32.ofNat ky2)), .val (.ref r258), .val (.int ((u0 &&& (((1 : Int32) <<< ((Int32.ofNat n) &&& 31)) - (1 : Int32))) ||| ((1 : Int32) <<< ((Int32.ofNat kx1) &&& 31))))] [(.int (((u0 &&& (((1 : Int32) <<< ((Int32.ofNat n) &&& 31)) - (1 : Int32))) ||| ((1 : Int32) <<< ((Int32.ofNat kx1) &&& 31))) ||| ((1 : Int32) <<< ((Int32.ofNat kx2) &&& 31))))]))
          refine Gl.go ?_ (fun t k => XS.istore X258.here hx rfl (hb hby at_230) rfl (l' := #[.val (.int u0), .val (.int u1), .val (.int u2), .val (.int (Int32.ofNat n)), .val (.int (1 : Int32)), .val (.int (1 : Int32)), .val (.ref ns), .val (.int (Int32.ofNat kx1)), .val (.int (Int32.ofNat ky1)), .val (.int (Int32.ofNat kx2)), .val (.int (Int32.ofNat ky2)), .val (.ref r258), .val (.int (((u0 &&& (((1 : Int32) <<< ((Int32.ofNat n) &&& 31)) - (1 : Int32))) ||| ((1 : Int32) <<< ((Int32.ofNat kx1) &&& 31))) ||| ((1 : Int32) <<< ((Int32.ofNat kx2) &&& 31))))]) rfl k)
          show Gl _ _ _ _ (T258.setTop (mkF m 232 _ []))
          refine Gl.go ?_ (fun t k => XS.aload X258.here hx rfl (hb hby at_232) rfl rfl k)
          show Gl _ _ _ _ (T258.setTop (mkF m 234 _ [(.ref r258)]))
          refine Gl.go ?_ (fun t k => XS.iloadN X258.here hx rfl (hb hby at_234) rfl k)
          show Gl _ _ _ _ (T258.setTop (mkF m 235 #[.val (.int u0), .val (.int u1), .val (.int u2), .val (.int (Int32.ofNat n)), .val (.int (1 : Int32)), .val (.int (1 : Int32)), .val (.ref ns), .val (.int (Int32.ofNat kx1)), .val (.int (Int32.ofNat ky1)), .val (.int (Int32.ofNat kx2)), .val (.int (Int32.ofNat ky2)), .val (.ref r258), .val (.int (((u0 &&& (((1 : Int32) <<< ((Int32.ofNat n) &&& 31)) - (1 : Int32))) ||| ((1 : Int32) <<< ((Int32.ofNat kx1) &&& 31))) ||| ((1 : Int32) <<< ((Int32.ofNat kx2) &&& 31))))] [(.int u0), (.ref r258)]))
          obtain ⟨cq265, kq265, q265a, q265b, q265c⟩ := isOf hZ rfl (E_act.ext OLD)
          obtain ⟨_, _, ⟨T265, L265, k265, n265⟩, -, X265, ⟨Lc265, hQ265, l265, y265, z265⟩, st265⟩ := X258.virtualBack hx (y := (⟨"com/example/grantline/grantline/engine/Actions", "impliedMask", "(I)I"⟩ : MethodName)) (z := (⟨"com/example/grantline/grantline/engine/Actions", "impliedMask", "(I)I"⟩ : MethodName)) hown (mvT hZ (hw _ (List.mem_of_getElem? (i := 79) rfl))) (mvT hZ (hw _ (List.mem_of_getElem? (i := 80) rfl))) (notFace_of_selects (args := #[]) (mvT hZ (hw _ (List.mem_of_getElem? (i := 82) rfl)))) (mvT hZ (hw _ (List.mem_of_getElem? (i := 82) rfl))) (mvT hZ (hw _ (List.mem_of_getElem? (i := 81) rfl))) (by decide) (backOf (W := 0) (rm12 l Z a0 hw [] r258 u0 ia258 n (Int32.ofNat n) (nth (own_upd (own_upd (own_bits n) kx1 ky1) kx2 ky2)) T258.heap (F_im.ext OLD) (IA.ba (hIA.ext OLD) n hl258 hn5) (own_ton hn5)) hZ (hw _ (List.mem_of_getElem? (i := 83) rfl)) (hw _ (List.mem_of_getElem? (i := 19) rfl)) (by decide) (by decide)) q265a q265c (g := (mkF m 235 #[.val (.int u0), .val (.int u1), .val (.int u2), .val (.int (Int32.ofNat n)), .val (.int (1 : Int32)), .val (.int (1 : Int32)), .val (.ref ns), .val (.int (Int32.ofNat kx1)), .val (.int (Int32.ofNat ky1)), .val (.int (Int32.ofNat kx2)), .val (.int (Int32.ofNat ky2)), .val (.ref r258), .val (.int (((u0 &&& (((1 : Int32) <<< ((Int32.ofNat n) &&& 31)) - (1 : Int32))) ||| ((1 : Int32) <<< ((Int32.ofNat kx1) &&& 31))) ||| ((1 : Int32) <<< ((Int32.ofNat kx2) &&& 31))))] [(.int u0), (.ref r258)])) rfl (by rw [hml]; rfl) (Steps.refl _) (argsL := [(.int u0)]) (rest := []) (lenOf pd_14 rfl) rfl (by show 2 * 0 + _ ≤ _; exact Nat.le_of_eq rfl) (hb hby at_235) (fun _ _ => ⟨rfl, rfl, (by decide : 21 + 0 ≤ _), (by decide : 75 + 0 ≤ _)⟩)
          dsimp only [Pt.U, Pt.locs, Pt.cells, Pt.slots] at X265 l265 y265 z265 st265 hQ265
          rw [l265, y265, z265] at X265
          clear l265 y265 z265
          obtain ⟨rfl, rfl, e265⟩ := hQ265
          replace NF := Fr.app NF (Fr.nil n0)
          refine Gl.tr ?_ st265
          show Gl _ _ _ _ (T265.setTop (mkF m 238 _ [(.int (f_mask u0 n (nth (own_upd (own_upd (own_bits n) kx1 ky1) kx2 ky2))))]))
          refine Gl.go ?_ (fun t k => XS.iload X265.here hx rfl (hb hby at_238) rfl k)
          show Gl _ _ _ _ (T265.setTop (mkF m 240 _ [(.int (((u0 &&& (((1 : Int32) <<< ((Int32.ofNat n) &&& 31)) - (1 : Int32))) ||| ((1 : Int32) <<< ((Int32.ofNat kx1) &&& 31))) ||| ((1 : Int32) <<< ((Int32.ofNat kx2) &&& 31)))), (.int (f_mask u0 n (nth (own_upd (own_upd (own_bits n) kx1 ky1) kx2 ky2))))]))
          refine Gl.go ?_ (fun t k => XS.icmpNo X265.here hx rfl (hb hby at_240) rfl (teq (((own_f2 u0 kx2 hl255 hc263 l_ky2 hn5).trans (own_or ((own_f2 u0 kx1 hlx hc259 l_ky1 hn5).trans (own_or (own_f0 u0 hn5))))))).2 k)
          show Gl _ _ _ _ (T265.setTop (mkF m 243 _ []))
          refine Gl.go ?_ (fun t k => XS.iconst X265.here hx rfl (hb hby at_243) k)
          show Gl _ _ _ _ (T265.setTop (mkF m 244 _ [(.int (1 : Int32))]))
          refine Gl.go ?_ (fun t k => XS.goto X265.here hx rfl (pc0 := 244) (pc' := 248) rfl (hb hby at_244) (by decide) (by decide) k)
          show Gl _ _ _ _ (T265.setTop (mkF m 248 _ [(.int (1 : Int32))]))
          obtain ⟨fs, hr, hrun, hended, -, hW, hpp, hsame⟩ := Stand.leaveW (s := s) (vm₁ := T250.vm) X265 hS (by rw [e265]; exact hk) (v := some (.int (1 : Int32))) (fun h => by rw [Bd.returns] at h; cases h) (BodyLoose.notSynchronized Bd)
          exact Gl.mk ⟨_, _, retN X265 hx (t := .boolean) Bd.returns (by simp) (hb hby at_248) hr, hrun, hended, _, _, rfl, ⟨rfl, NF⟩, ⟨_, rfl⟩, hW, hpp, hsame.mono (by decide) (by decide)⟩
theorem own_nz {args : Array Value} {first s : State} {o : Option Outcome} {idx : List Nat} {a : Term} {z : Int32} (h : (Cond.not (Cond.eq a (Term.int 0))).value args first o s idx = some true) (ev : a.eval args first o idx s = some (.int z)) : ¬ z = 0 := fun q => by
  subst q
  simp [Cond.value, ev, Term.eval] at h
set_option maxRecDepth 65536 in
set_option maxHeartbeats 40000000 in
theorem comes_1 {Post : Tables → Env → Array Value → State → Outcome → State → Prop} (hpost : ∀ tb e args s v u, (limb_1_1.after args s (.returned v) u = true ∧ limb_1_2.after args s (.returned v) u = true ∧ True) → FramedW s (.returned v) u (Jvm.fieldLocs frame_1_writes args s ++ Jvm.arrayLocs frame_1_arrays args s ++ Jvm.staticLocs frame_1_statics s) 40 5312 → Post tb e args s (.returned v) u) :
    ArmFor flags0 classFile x code maxLocals ret World_1 tables_1 room_1 Calls_1 rest_1 Pre_1 Post := by
  intro l hfl _ _ p e ha hc hk s m args below hf hA hF happ hP
  obtain ⟨hcalls, hrest, hpre⟩ := hP
  obtain ⟨-, -, -, hnamed, -, -, -, hat⟩ := (Spec.applies_iff hf).mp happ
  obtain ⟨hg, hn⟩ := and_e (Cond.before_iff.mp (show (Jvm.Cond.and given_1 narrow_1).before args s = true from hpre))
  obtain ⟨g1, g2⟩ := and_e hg
  obtain ⟨g3, g4⟩ := and_e g2
  obtain ⟨g5, g6⟩ := and_e g4
  obtain ⟨w0, w1, w2, rfl⟩ : ∃ w0 w1 w2 : Value, args = #[w0, w1, w2] := by
    have hs : args.size = 3 := by simpa [Cond.value, given_1] using g1
    obtain ⟨L⟩ := args
    match L, hs with
    | [w0, w1, w2], _ => exact ⟨w0, w1, w2, rfl⟩
  have hw := fun d (hd : d ∈ tables_1) => atoms_spec (ws := Jvm.Cond.code x code maxLocals ret :: tables_1) hat d (List.mem_cons_of_mem _ hd)
  obtain ⟨hsets, hown0⟩ := atoms_of _ (rest_1_c_eq ▸ (show rest_1_c.before _ s = true from hrest))
  obtain ⟨i0, ei0⟩ := is_v g3
  obtain rfl : w0 = (.int i0) := Option.some.inj ei0
  obtain ⟨i1, ei1⟩ := is_v g5
  obtain rfl : w1 = (.int i1) := Option.some.inj ei1
  obtain ⟨i2, ei2⟩ := is_v g6
  obtain rfl : w2 = (.int i2) := Option.some.inj ei2
  obtain ⟨cs, ev_cs⟩ := is_v (Cond.before_iff.mp (hsets _ (List.mem_of_getElem? (i := 1) rfl)))
  have S_CS := Sta.start ev_cs (Or.inl (hsets _ (List.mem_of_getElem? (i := 0) rfl)))
  have hcs := own_nz (Cond.before_iff.mp (hsets _ (List.mem_of_getElem? (i := 2) rfl))) ev_cs
  obtain ⟨em, ev_em⟩ := exa_v (Cond.before_iff.mp (hsets _ (List.mem_of_getElem? (i := 11) rfl)))
  have E_em := Exa.start ev_em (Cond.before_iff.mp (hsets _ (List.mem_of_getElem? (i := 11) rfl)))
  have S_EM := Sta.start ev_em (Or.inl (hsets _ (List.mem_of_getElem? (i := 10) rfl)))
  obtain ⟨el, ev_el⟩ := exa_v (Cond.before_iff.mp (hsets _ (List.mem_of_getElem? (i := 17) rfl)))
  have S_EL := Sta.start ev_el (Or.inl (hsets _ (List.mem_of_getElem? (i := 16) rfl)))
  have hH9 : Jvm.Lit.constHeld s "com/example/grantline/grantline/engine/ActionsImpliedMaskPinLaw" 9 := hcalls.1 ("com/example/grantline/grantline/engine/ActionsImpliedMaskPinLaw", 9) (List.mem_of_getElem? (i := 0) rfl)
  have hH11 : Jvm.Lit.constHeld s "com/example/grantline/grantline/engine/ActionsImpliedMaskPinLaw" 11 := hcalls.1 ("com/example/grantline/grantline/engine/ActionsImpliedMaskPinLaw", 11) (List.mem_of_getElem? (i := 1) rfl)
  have hH13 : Jvm.Lit.constHeld s "com/example/grantline/grantline/engine/ActionsImpliedMaskPinLaw" 13 := hcalls.1 ("com/example/grantline/grantline/engine/ActionsImpliedMaskPinLaw", 13) (List.mem_of_getElem? (i := 2) rfl)
  have hH15 : Jvm.Lit.constHeld s "com/example/grantline/grantline/engine/ActionsImpliedMaskPinLaw" 15 := hcalls.1 ("com/example/grantline/grantline/engine/ActionsImpliedMaskPinLaw", 15) (List.mem_of_getElem? (i := 3) rfl)
  have hH17 : Jvm.Lit.constHeld s "com/example/grantline/grantline/engine/ActionsImpliedMaskPinLaw" 17 := hcalls.1 ("com/example/grantline/grantline/engine/ActionsImpliedMaskPinLaw", 17) (List.mem_of_getElem? (i := 4) rfl)
  rcases own_n6 i1 with hn | hn | hn | hn | hn | hn
  · obtain ⟨n, o, h1, h2, h3, _, L, rfl, ⟨rfl, N⟩, hq⟩ := rm0_0 l s _ hw tables_1 i0 i1 i2 cs em el  s.heap s.heap.size (Nat.le_refl _) hn  rfl rfl hH9 hH11 hH13 hH15 hH17 (hsets _ (List.mem_of_getElem? (i := 2) rfl)) S_CS hcs S_EM S_EL E_em p e ha hc hk s m _ below hf ((Spec.applies_iff_loose hf).mp happ).1 ⟨rfl, State.Warmed39.refl s, rfl, IB.start⟩ trivial
    exact ⟨n, _, h1, h2, h3, hpost _ _ _ _ _ _ ⟨Cond.after_iff.mpr rfl, Cond.after_iff.mpr (eq_i res_at (Term.int_eval (1)) rfl), trivial⟩ ⟨hq.1, hq.2.1, hq.2.2.1, (hq.2.2.2.sift fun y hy => Or.inr (N y hy)).mono (by decide) (by decide)⟩⟩
  · obtain ⟨n, o, h1, h2, h3, _, L, rfl, ⟨rfl, N⟩, hq⟩ := rm0_n l s _ hw tables_1 i0 i1 i2 cs em el 1 s.heap s.heap.size (Nat.le_refl _) hn (by decide) (by decide) rfl rfl hH9 hH11 hH13 hH15 hH17 (hsets _ (List.mem_of_getElem? (i := 2) rfl)) S_CS hcs S_EM S_EL E_em p e ha hc hk s m _ below hf ((Spec.applies_iff_loose hf).mp happ).1 ⟨rfl, State.Warmed39.refl s, rfl, IB.start⟩ trivial
    exact ⟨n, _, h1, h2, h3, hpost _ _ _ _ _ _ ⟨Cond.after_iff.mpr rfl, Cond.after_iff.mpr (eq_i res_at (Term.int_eval (1)) rfl), trivial⟩ ⟨hq.1, hq.2.1, hq.2.2.1, (hq.2.2.2.sift fun y hy => Or.inr (N y hy)).mono (by decide) (by decide)⟩⟩
  · obtain ⟨n, o, h1, h2, h3, _, L, rfl, ⟨rfl, N⟩, hq⟩ := rm0_n l s _ hw tables_1 i0 i1 i2 cs em el 2 s.heap s.heap.size (Nat.le_refl _) hn (by decide) (by decide) rfl rfl hH9 hH11 hH13 hH15 hH17 (hsets _ (List.mem_of_getElem? (i := 2) rfl)) S_CS hcs S_EM S_EL E_em p e ha hc hk s m _ below hf ((Spec.applies_iff_loose hf).mp happ).1 ⟨rfl, State.Warmed39.refl s, rfl, IB.start⟩ trivial
    exact ⟨n, _, h1, h2, h3, hpost _ _ _ _ _ _ ⟨Cond.after_iff.mpr rfl, Cond.after_iff.mpr (eq_i res_at (Term.int_eval (1)) rfl), trivial⟩ ⟨hq.1, hq.2.1, hq.2.2.1, (hq.2.2.2.sift fun y hy => Or.inr (N y hy)).mono (by decide) (by decide)⟩⟩
  · obtain ⟨n, o, h1, h2, h3, _, L, rfl, ⟨rfl, N⟩, hq⟩ := rm0_n l s _ hw tables_1 i0 i1 i2 cs em el 3 s.heap s.heap.size (Nat.le_refl _) hn (by decide) (by decide) rfl rfl hH9 hH11 hH13 hH15 hH17 (hsets _ (List.mem_of_getElem? (i := 2) rfl)) S_CS hcs S_EM S_EL E_em p e ha hc hk s m _ below hf ((Spec.applies_iff_loose hf).mp happ).1 ⟨rfl, State.Warmed39.refl s, rfl, IB.start⟩ trivial
    exact ⟨n, _, h1, h2, h3, hpost _ _ _ _ _ _ ⟨Cond.after_iff.mpr rfl, Cond.after_iff.mpr (eq_i res_at (Term.int_eval (1)) rfl), trivial⟩ ⟨hq.1, hq.2.1, hq.2.2.1, (hq.2.2.2.sift fun y hy => Or.inr (N y hy)).mono (by decide) (by decide)⟩⟩
  · obtain ⟨n, o, h1, h2, h3, _, L, rfl, ⟨rfl, N⟩, hq⟩ := rm0_n l s _ hw tables_1 i0 i1 i2 cs em el 4 s.heap s.heap.size (Nat.le_refl _) hn (by decide) (by decide) rfl rfl hH9 hH11 hH13 hH15 hH17 (hsets _ (List.mem_of_getElem? (i := 2) rfl)) S_CS hcs S_EM S_EL E_em p e ha hc hk s m _ below hf ((Spec.applies_iff_loose hf).mp happ).1 ⟨rfl, State.Warmed39.refl s, rfl, IB.start⟩ trivial
    exact ⟨n, _, h1, h2, h3, hpost _ _ _ _ _ _ ⟨Cond.after_iff.mpr rfl, Cond.after_iff.mpr (eq_i res_at (Term.int_eval (1)) rfl), trivial⟩ ⟨hq.1, hq.2.1, hq.2.2.1, (hq.2.2.2.sift fun y hy => Or.inr (N y hy)).mono (by decide) (by decide)⟩⟩
  · obtain ⟨n, o, h1, h2, h3, _, L, rfl, ⟨rfl, N⟩, hq⟩ := rm0_n l s _ hw tables_1 i0 i1 i2 cs em el 5 s.heap s.heap.size (Nat.le_refl _) hn (by decide) (by decide) rfl rfl hH9 hH11 hH13 hH15 hH17 (hsets _ (List.mem_of_getElem? (i := 2) rfl)) S_CS hcs S_EM S_EL E_em p e ha hc hk s m _ below hf ((Spec.applies_iff_loose hf).mp happ).1 ⟨rfl, State.Warmed39.refl s, rfl, IB.start⟩ trivial
    exact ⟨n, _, h1, h2, h3, hpost _ _ _ _ _ _ ⟨Cond.after_iff.mpr rfl, Cond.after_iff.mpr (eq_i res_at (Term.int_eval (1)) rfl), trivial⟩ ⟨hq.1, hq.2.1, hq.2.2.1, (hq.2.2.2.sift fun y hy => Or.inr (N y hy)).mono (by decide) (by decide)⟩⟩
theorem main_1_1 : Claimed_1_1 := comes_1 fun _ _ _ _ _ _ h hF => ⟨h.1, hF⟩
theorem main_1_2 : Claimed_1_2 := comes_1 fun _ _ _ _ _ _ h hF => ⟨h.2.1, hF⟩
end Jvm.Pilot.@@N@@
namespace Jvm.Pilot.@@N@@
open Jvm Jvm.ClassFile Sem Op Lib Jvm.Free Jvm.Stand Jvm.Pilot.@@N@@.Jvm.D
/-! MADE BY PROGRAM (witnessworld.py) out of the Statement's table words and the real class files: 31 classes; the members and pool entries that the words name. The judged class is class 1, her method 2. -/
namespace start1
open Jvm.ClassFile
def u (s : String) : CpInfo := .utf8 (stringToUtf16 s)
/-- a pool by its gaps: so many unusable entries, then the entry; so many at the end -/
def gap : Nat → List CpInfo → List CpInfo
  | 0, r => r
  | n + 1, r => .unusable :: gap n r
def poolList (es : List (Nat × CpInfo)) (last : Nat) : List CpInfo := es.foldr (fun e r => gap e.1 (e.2 :: r)) (gap last [])
def pool (es : List (Nat × CpInfo)) (last : Nat) : Array CpInfo := ⟨poolList es last⟩
def fileOf (pool : Array CpInfo) (this : Nat) (attrs : Array Attribute := #[]) (ms : Array MethodInfo := #[]) (fl : Nat := 33) (sup : Nat := 0) (ifs : Array Nat := #[]) (fds : Array FieldInfo := #[]) : ClassFile where
  minorVersion := 0
  majorVersion := 65
  constantPool := pool
  accessFlags := fl
  thisClass := this
  superClass := sup
  interfaces := ifs
  fields := fds
  methods := ms
  attributes := attrs
def plain (name : String) (sup : Option ClassId) : Class where
  name := name
  kind := .ordinary
  loader := none
  accessFlags := 33
  super := sup
  interfaces := #[]
  cf := none
  fields := #[]
  methods := #[]
  instanceTypes := #[]
  staticTypes := #[]
  resolved := #[]
  callSites := []
  init := .initialized
  statics := none
  mirror := none

def pool0 : Array CpInfo := pool [(5, u "<init>"), (0, u "()V"), (1, .class_ 10), (1, u "java/lang/Object"), (81, u "equals"), (0, u "(Ljava/lang/Object;)Z"), (2, u "clone"), (0, u "()Ljava/lang/Object;")] 26

def k0c0 : Code := { maxStack := 0, maxLocals := 1, code := object_method_1_code, exceptionTable := #[], attributes := #[] }
def k0m0 : Method := { name := "<init>", desc := "()V", sig := { parameters := [], returnType := none }, accessFlags := 1, code := some k0c0 }
def k0c1 : Code := { maxStack := 2, maxLocals := 2, code := ⟨#[0x2a, 0x2b, 0xa6, 0x00, 0x07, 0x04, 0xa7, 0x00, 0x04, 0x03, 0xac]⟩, exceptionTable := #[], attributes := #[] }
def k0m1 : Method := { name := "equals", desc := "(Ljava/lang/Object;)Z", sig := { parameters := [(.object "java/lang/Object")], returnType := some .boolean }, accessFlags := 1, code := some k0c1 }
def k0m2 : Method := { name := "clone", desc := "()Ljava/lang/Object;", sig := { parameters := [], returnType := some (.object "java/lang/Object") }, accessFlags := 260, code := none }
/-- java/lang/Object -/
def k0 : Class := { plain "java/lang/Object" none with
  accessFlags := 33
  interfaces := #[]
  cf := some (fileOf pool0 8 #[] #[{ accessFlags := 1, nameIndex := 5, descriptorIndex := 6, attributes := #[] }, { accessFlags := 1, nameIndex := 92, descriptorIndex := 93, attributes := #[] }, { accessFlags := 260, nameIndex := 96, descriptorIndex := 97, attributes := #[] }] 33 0 #[] #[])
  fields := #[]
  methods := #[k0m0, k0m1, k0m2]
  instanceTypes := #[]
  staticTypes := #[]
  resolved := Array.replicate 124 none
  statics := none }

def pool1 : Array CpInfo := pool [(2, .class_ 4), (1, u "java/lang/Object"), (0, u "<init>"), (0, u "()V"), (0, .class_ 8), (0, u "java/lang/String"), (0, .string 10), (0, u "a"), (0, .string 12), (0, u "b"), (0, .string 14), (0, u "c"), (0, .string 16), (0, u "d"), (0, .string 18), (0, u "e"), (0, .methodref 20 21), (0, .class_ 22), (0, .nameAndType 23 24), (0, u "com/example/grantline/grantline/engine/ActionsImpliedMaskPinLaw"), (0, u "names"), (0, u "(I)[Ljava/lang/String;"), (0, .class_ 26), (0, u "com/example/grantline/grantline/engine/Actions"), (0, .methodref 25 28), (0, .nameAndType 5 29), (0, u "([Ljava/lang/String;)V"), (0, .methodref 25 31), (0, .nameAndType 32 33), (0, u "withImplied"), (0, u "(Ljava/lang/String;[Ljava/lang/String;)Lcom/example/grantline/grantline/engine/Actions;"), (0, .methodref 25 35), (0, .nameAndType 36 37), (0, u "impliedMask"), (0, u "(I)I"), (3, u "law"), (0, u "(III)Z")] 4

def k1m0 : Method := { name := "<init>", desc := "()V", sig := { parameters := [], returnType := none }, accessFlags := 1, code := none }
def k1c1 : Code := { maxStack := 4, maxLocals := 1, code := method_2_code, exceptionTable := #[], attributes := #[] }
def k1m1 : Method := { name := "names", desc := "(I)[Ljava/lang/String;", sig := { parameters := [.int], returnType := some (.array (.object "java/lang/String")) }, accessFlags := 10, code := some k1c1 }
def k1c2 : Code := { maxStack := 7, maxLocals := 13, code := code, exceptionTable := #[], attributes := #[] }
def k1m2 : Method := { name := "law", desc := "(III)Z", sig := { parameters := [.int, .int, .int], returnType := some .boolean }, accessFlags := 9, code := some k1c2 }
/-- com/example/grantline/grantline/engine/ActionsImpliedMaskPinLaw -/
def k1 : Class := { plain "com/example/grantline/grantline/engine/ActionsImpliedMaskPinLaw" (some 0) with
  accessFlags := 49
  interfaces := #[]
  cf := some (fileOf pool1 20 #[] #[{ accessFlags := 1, nameIndex := 5, descriptorIndex := 6, attributes := #[] }, { accessFlags := 10, nameIndex := 23, descriptorIndex := 24, attributes := #[] }, { accessFlags := 9, nameIndex := 41, descriptorIndex := 42, attributes := #[] }] 49 2 #[] #[])
  fields := #[]
  methods := #[k1m0, k1m1, k1m2]
  instanceTypes := #[]
  staticTypes := #[]
  resolved := Array.replicate 47 none
  statics := none }

def pool2 : Array CpInfo := pool [(1, .class_ 2), (0, u "java/io/Serializable"), (0, .class_ 4), (0, u "java/lang/Object")] 2

/-- java/io/Serializable -/
def k2 : Class := { plain "java/io/Serializable" (some 0) with
  accessFlags := 1537
  interfaces := #[]
  cf := some (fileOf pool2 1 #[] #[] 1537 3 #[] #[])
  fields := #[]
  methods := #[]
  instanceTypes := #[]
  staticTypes := #[]
  resolved := Array.replicate 7 none
  statics := none }

def pool3 : Array CpInfo := pool [(1, .class_ 2), (0, u "java/lang/Comparable"), (0, .class_ 4), (0, u "java/lang/Object")] 7

/-- java/lang/Comparable -/
def k3 : Class := { plain "java/lang/Comparable" (some 0) with
  accessFlags := 1537
  interfaces := #[]
  cf := some (fileOf pool3 1 #[] #[] 1537 3 #[] #[])
  fields := #[]
  methods := #[]
  instanceTypes := #[]
  staticTypes := #[]
  resolved := Array.replicate 12 none
  statics := none }

def pool4 : Array CpInfo := pool [(2, .class_ 4), (1, u "java/lang/CharSequence"), (42, .class_ 48), (0, u "java/lang/CharSequence$1CodePointIterator"), (10, .class_ 60), (0, u "java/lang/CharSequence$1CharIterator"), (5, .class_ 67), (0, u "java/lang/Object")] 63

/-- java/lang/CharSequence -/
def k4 : Class := { plain "java/lang/CharSequence" (some 0) with
  accessFlags := 1537
  interfaces := #[]
  cf := some (fileOf pool4 2 #[.nestMembers #[47, 59]] #[] 1537 66 #[] #[])
  fields := #[]
  methods := #[]
  instanceTypes := #[]
  staticTypes := #[]
  resolved := Array.replicate 131 none
  statics := none }

def pool5 : Array CpInfo := pool [(1, .class_ 2), (0, u "java/lang/constant/Constable"), (0, .class_ 4), (0, u "java/lang/Object")] 6

/-- java/lang/constant/Constable -/
def k5 : Class := { plain "java/lang/constant/Constable" (some 0) with
  accessFlags := 1537
  interfaces := #[]
  cf := some (fileOf pool5 1 #[] #[] 1537 3 #[] #[])
  fields := #[]
  methods := #[]
  instanceTypes := #[]
  staticTypes := #[]
  resolved := Array.replicate 11 none
  statics := none }

def pool6 : Array CpInfo := pool [(1, .class_ 2), (0, u "java/lang/constant/ConstantDesc"), (0, .class_ 4), (0, u "java/lang/Object")] 32

/-- java/lang/constant/ConstantDesc -/
def k6 : Class := { plain "java/lang/constant/ConstantDesc" (some 0) with
  accessFlags := 1537
  interfaces := #[]
  cf := some (fileOf pool6 1 #[] #[] 1537 3 #[] #[])
  fields := #[]
  methods := #[]
  instanceTypes := #[]
  staticTypes := #[]
  resolved := Array.replicate 37 none
  statics := none }

def pool7 : Array CpInfo := pool [(2, .class_ 4), (1, u "java/lang/Object"), (0, u "<init>"), (0, u "()V"), (2, .fieldref 10 11), (0, .class_ 12), (0, .nameAndType 13 14), (0, u "java/lang/String"), (0, u "value"), (0, u "[B"), (0, .fieldref 10 16), (0, .nameAndType 17 18), (0, u "coder"), (0, u "B"), (2, u "hash"), (0, u "I"), (2, u "hashIsZero"), (0, u "Z"), (11, .fieldref 10 39), (0, .nameAndType 40 26), (0, u "COMPACT_STRINGS"), (66, .class_ 109), (1, u "java/lang/StringLatin1"), (431, .methodref 107 542), (0, .nameAndType 543 544), (0, u "equals"), (0, u "([B[B)Z"), (28, u "(Ljava/lang/Object;)Z"), (1, .class_ 576), (0, u "java/lang/CharSequence"), (22, u "CASE_INSENSITIVE_ORDER"), (0, u "Ljava/util/Comparator;"), (500, u "serialPersistentFields"), (0, u "[Ljava/io/ObjectStreamField;"), (0, .class_ 1104), (0, u "java/lang/String$CaseInsensitiveComparator"), (1, .class_ 1107), (0, u "java/io/Serializable"), (0, .class_ 1109), (0, u "java/lang/Comparable"), (0, .class_ 1111), (0, u "java/lang/constant/Constable"), (0, .class_ 1113), (0, u "java/lang/constant/ConstantDesc"), (2, u "serialVersionUID"), (0, u "J"), (3, u "REPL"), (0, u "C"), (2, u "LATIN1"), (1, u "UTF16")] 323

def k7m0 : Method := { name := "<init>", desc := "()V", sig := { parameters := [], returnType := none }, accessFlags := 1, code := none }
def k7c1 : Code := { maxStack := 2, maxLocals := 3, code := jdk_42_method_66_code, exceptionTable := #[], attributes := #[] }
def k7m1 : Method := { name := "equals", desc := "(Ljava/lang/Object;)Z", sig := { parameters := [(.object "java/lang/Object")], returnType := some .boolean }, accessFlags := 1, code := some k7c1 }
/-- java/lang/String -/
def k7 : Class := { plain "java/lang/String" (some 0) with
  accessFlags := 49
  interfaces := #[2, 3, 4, 5, 6]
  cf := some (fileOf pool7 10 #[.nestMembers #[1103]] #[{ accessFlags := 1, nameIndex := 5, descriptorIndex := 6, attributes := #[] }, { accessFlags := 1, nameIndex := 543, descriptorIndex := 573, attributes := #[] }] 49 2 #[1106, 1108, 575, 1110, 1112] #[{ accessFlags := 18, nameIndex := 13, descriptorIndex := 14, attributes := #[] }, { accessFlags := 18, nameIndex := 17, descriptorIndex := 18, attributes := #[] }, { accessFlags := 2, nameIndex := 21, descriptorIndex := 22, attributes := #[] }, { accessFlags := 2, nameIndex := 25, descriptorIndex := 26, attributes := #[] }, { accessFlags := 26, nameIndex := 1116, descriptorIndex := 1117, attributes := #[] }, { accessFlags := 24, nameIndex := 40, descriptorIndex := 26, attributes := #[] }, { accessFlags := 26, nameIndex := 1101, descriptorIndex := 1102, attributes := #[] }, { accessFlags := 26, nameIndex := 1121, descriptorIndex := 1122, attributes := #[] }, { accessFlags := 25, nameIndex := 599, descriptorIndex := 600, attributes := #[] }, { accessFlags := 24, nameIndex := 1125, descriptorIndex := 18, attributes := #[] }, { accessFlags := 24, nameIndex := 1127, descriptorIndex := 18, attributes := #[] }])
  fields := #[{ name := "value", type := (.array .byte), accessFlags := 18, slot := 0, constantValue := 0 }, { name := "coder", type := .byte, accessFlags := 18, slot := 1, constantValue := 0 }, { name := "hash", type := .int, accessFlags := 2, slot := 2, constantValue := 0 }, { name := "hashIsZero", type := .boolean, accessFlags := 2, slot := 3, constantValue := 0 }, { name := "serialVersionUID", type := .long, accessFlags := 26, slot := 0, constantValue := 0 }, { name := "COMPACT_STRINGS", type := .boolean, accessFlags := 24, slot := 1, constantValue := 0 }, { name := "serialPersistentFields", type := (.array (.object "java/io/ObjectStreamField")), accessFlags := 26, slot := 2, constantValue := 0 }, { name := "REPL", type := .char, accessFlags := 26, slot := 3, constantValue := 0 }, { name := "CASE_INSENSITIVE_ORDER", type := (.object "java/util/Comparator"), accessFlags := 25, slot := 4, constantValue := 0 }, { name := "LATIN1", type := .byte, accessFlags := 24, slot := 5, constantValue := 0 }, { name := "UTF16", type := .byte, accessFlags := 24, slot := 6, constantValue := 0 }]
  methods := #[k7m0, k7m1]
  instanceTypes := #[(.array .byte), .byte, .int, .boolean]
  staticTypes := #[.long, .boolean, (.array (.object "java/io/ObjectStreamField")), .char, (.object "java/util/Comparator"), .byte, .byte]
  resolved := Array.replicate 1451 none
  statics := some 0 }

def pool8 : Array CpInfo := pool [(1, .interfaceMethodref 2 3), (0, .class_ 4), (0, .nameAndType 5 6), (0, u "java/util/List"), (0, u "of"), (0, u "([Ljava/lang/Object;)Ljava/util/List;"), (0, .methodref 8 9), (0, .class_ 10), (0, .nameAndType 11 12), (0, u "com/example/grantline/grantline/engine/Actions"), (0, u "<init>"), (0, u "(Ljava/util/List;[I)V"), (0, .fieldref 8 14), (0, .nameAndType 15 16), (0, u "implied"), (0, u "[I"), (0, .methodref 18 19), (0, .class_ 20), (0, .nameAndType 11 21), (0, u "java/lang/Object"), (0, u "()V"), (0, .fieldref 8 23), (0, .nameAndType 24 25), (0, u "names"), (0, u "Ljava/util/List;"), (0, .methodref 27 28), (0, .class_ 16), (0, .nameAndType 29 30), (0, u "clone"), (0, u "()Ljava/lang/Object;"), (0, .methodref 8 32), (0, .nameAndType 33 34), (0, u "index"), (0, u "(Ljava/lang/String;)I"), (40, .interfaceMethodref 2 76), (0, .nameAndType 77 78), (0, u "indexOf"), (0, u "(Ljava/lang/Object;)I"), (30, u "([Ljava/lang/String;)V"), (6, u "withImplied"), (0, u "(Ljava/lang/String;[Ljava/lang/String;)Lcom/example/grantline/grantline/engine/Actions;"), (2, u "impliedMask"), (0, u "(I)I")] 21

def k8c0 : Code := { maxStack := 4, maxLocals := 3, code := prog_18_method_1_code, exceptionTable := #[], attributes := #[] }
def k8m0 : Method := { name := "<init>", desc := "([Ljava/lang/String;)V", sig := { parameters := [(.array (.object "java/lang/String"))], returnType := none }, accessFlags := 128, code := some k8c0 }
def k8c1 : Code := { maxStack := 2, maxLocals := 3, code := prog_18_method_2_code, exceptionTable := #[], attributes := #[] }
def k8m1 : Method := { name := "<init>", desc := "(Ljava/util/List;[I)V", sig := { parameters := [(.object "java/util/List"), (.array .int)], returnType := none }, accessFlags := 2, code := some k8c1 }
def k8c2 : Code := { maxStack := 6, maxLocals := 8, code := prog_18_method_3_code, exceptionTable := #[], attributes := #[] }
def k8m2 : Method := { name := "withImplied", desc := "(Ljava/lang/String;[Ljava/lang/String;)Lcom/example/grantline/grantline/engine/Actions;", sig := { parameters := [(.object "java/lang/String"), (.array (.object "java/lang/String"))], returnType := some (.object "com/example/grantline/grantline/engine/Actions") }, accessFlags := 128, code := some k8c2 }
def k8c3 : Code := { maxStack := 3, maxLocals := 4, code := prog_18_method_5_code, exceptionTable := #[], attributes := #[] }
def k8m3 : Method := { name := "impliedMask", desc := "(I)I", sig := { parameters := [.int], returnType := some .int }, accessFlags := 0, code := some k8c3 }
def k8c4 : Code := { maxStack := 4, maxLocals := 3, code := prog_18_method_6_code, exceptionTable := #[], attributes := #[] }
def k8m4 : Method := { name := "index", desc := "(Ljava/lang/String;)I", sig := { parameters := [(.object "java/lang/String")], returnType := some .int }, accessFlags := 2, code := some k8c4 }
/-- com/example/grantline/grantline/engine/Actions -/
def k8 : Class := { plain "com/example/grantline/grantline/engine/Actions" (some 0) with
  accessFlags := 48
  interfaces := #[]
  cf := some (fileOf pool8 8 #[] #[{ accessFlags := 128, nameIndex := 11, descriptorIndex := 109, attributes := #[] }, { accessFlags := 2, nameIndex := 11, descriptorIndex := 12, attributes := #[] }, { accessFlags := 128, nameIndex := 116, descriptorIndex := 117, attributes := #[] }, { accessFlags := 0, nameIndex := 120, descriptorIndex := 121, attributes := #[] }, { accessFlags := 2, nameIndex := 33, descriptorIndex := 34, attributes := #[] }] 48 18 #[] #[{ accessFlags := 18, nameIndex := 24, descriptorIndex := 25, attributes := #[] }, { accessFlags := 18, nameIndex := 15, descriptorIndex := 16, attributes := #[] }])
  fields := #[{ name := "names", type := (.object "java/util/List"), accessFlags := 18, slot := 0, constantValue := 0 }, { name := "implied", type := (.array .int), accessFlags := 18, slot := 1, constantValue := 0 }]
  methods := #[k8m0, k8m1, k8m2, k8m3, k8m4]
  instanceTypes := #[(.object "java/util/List"), (.array .int)]
  staticTypes := #[]
  resolved := Array.replicate 143 none
  statics := none }

def pool9 : Array CpInfo := pool [(8, .class_ 10), (1, u "java/lang/Iterable"), (24, .class_ 36), (0, u "java/lang/Object")] 25

/-- java/lang/Iterable -/
def k9 : Class := { plain "java/lang/Iterable" (some 0) with
  accessFlags := 1537
  interfaces := #[]
  cf := some (fileOf pool9 8 #[] #[] 1537 35 #[] #[])
  fields := #[]
  methods := #[]
  instanceTypes := #[]
  staticTypes := #[]
  resolved := Array.replicate 62 none
  statics := none }

def pool10 : Array CpInfo := pool [(10, .class_ 12), (1, u "java/util/Collection"), (47, .class_ 61), (0, u "java/lang/Object"), (0, .class_ 63), (0, u "java/lang/Iterable")] 51

/-- java/util/Collection -/
def k10 : Class := { plain "java/util/Collection" (some 0) with
  accessFlags := 1537
  interfaces := #[9]
  cf := some (fileOf pool10 10 #[] #[] 1537 60 #[62] #[])
  fields := #[]
  methods := #[]
  instanceTypes := #[]
  staticTypes := #[]
  resolved := Array.replicate 115 none
  statics := none }

def pool11 : Array CpInfo := pool [(8, .class_ 10), (1, u "java/util/SequencedCollection"), (15, .class_ 27), (0, u "java/lang/Object"), (0, .class_ 29), (0, u "java/util/Collection")] 27

/-- java/util/SequencedCollection -/
def k11 : Class := { plain "java/util/SequencedCollection" (some 0) with
  accessFlags := 1537
  interfaces := #[10]
  cf := some (fileOf pool11 8 #[] #[] 1537 26 #[28] #[])
  fields := #[]
  methods := #[]
  instanceTypes := #[]
  staticTypes := #[]
  resolved := Array.replicate 57 none
  statics := none }

def pool12 : Array CpInfo := pool [(8, .class_ 10), (1, u "java/util/List"), (20, u "(Ljava/lang/Object;)V"), (16, u "<init>"), (39, u "of"), (1, .fieldref 91 92), (0, .class_ 93), (0, .nameAndType 94 95), (0, u "java/util/ImmutableCollections"), (0, u "EMPTY_LIST"), (0, u "Ljava/util/ImmutableCollections$ListN;"), (0, .class_ 97), (0, u "java/util/ImmutableCollections$List12"), (0, .methodref 96 99), (0, .nameAndType 48 31), (0, .methodref 96 101), (0, .nameAndType 48 102), (0, u "(Ljava/lang/Object;Ljava/lang/Object;)V"), (0, .class_ 104), (0, u "java/lang/Object"), (3, u "([Ljava/lang/Object;)Ljava/util/List;"), (0, .methodref 91 110), (0, .nameAndType 111 108), (0, u "listFromArray"), (8, .class_ 121), (0, u "java/util/SequencedCollection"), (54, u "indexOf"), (0, u "(Ljava/lang/Object;)I")] 73

def k12m0 : Method := { name := "indexOf", desc := "(Ljava/lang/Object;)I", sig := { parameters := [(.object "java/lang/Object")], returnType := some .int }, accessFlags := 1025, code := none }
def k12c1 : Code := { maxStack := 5, maxLocals := 2, code := jdk_40_method_47_code, exceptionTable := #[], attributes := #[] }
def k12m1 : Method := { name := "of", desc := "([Ljava/lang/Object;)Ljava/util/List;", sig := { parameters := [(.array (.object "java/lang/Object"))], returnType := some (.object "java/util/List") }, accessFlags := 137, code := some k12c1 }
/-- java/util/List -/
def k12 : Class := { plain "java/util/List" (some 0) with
  accessFlags := 1537
  interfaces := #[11]
  cf := some (fileOf pool12 8 #[] #[{ accessFlags := 1025, nameIndex := 176, descriptorIndex := 177, attributes := #[] }, { accessFlags := 137, nameIndex := 88, descriptorIndex := 108, attributes := #[] }] 1537 103 #[120] #[])
  fields := #[]
  methods := #[k12m0, k12m1]
  instanceTypes := #[]
  staticTypes := #[]
  resolved := Array.replicate 251 none
  statics := none }

def pool13 : Array CpInfo := pool [(2, .class_ 4), (1, u "java/lang/Object"), (0, u "<init>"), (0, u "()V"), (3, .class_ 11), (0, u "java/util/ImmutableCollections$List12"), (0, .class_ 13), (0, u "java/util/ImmutableCollections$ListN"), (3, u "Z"), (18, u "([Ljava/lang/Object;)Ljava/util/List;"), (0, .methodref 38 39), (0, .class_ 40), (0, .nameAndType 41 42), (0, u "java/util/Objects"), (0, u "requireNonNull"), (0, u "(Ljava/lang/Object;)Ljava/lang/Object;"), (0, .methodref 12 44), (0, .nameAndType 5 45), (0, u "([Ljava/lang/Object;Z)V"), (1, .class_ 49), (1, u "java/util/ImmutableCollections"), (0, u "$assertionsDisabled"), (5, u "[Ljava/lang/Object;"), (5, u "EMPTY_LIST"), (0, u "Ljava/util/ImmutableCollections$ListN;"), (8, u "EMPTY_LIST_NULLS"), (22, u "SALT32L"), (0, u "J"), (2, u "REVERSE"), (6, u "archivedObjects"), (2, u "EMPTY"), (0, u "Ljava/lang/Object;"), (0, .class_ 112), (0, u "java/util/ImmutableCollections$SetN"), (5, u "EMPTY_SET"), (0, u "Ljava/util/ImmutableCollections$SetN;"), (0, .class_ 121), (0, u "java/util/ImmutableCollections$MapN"), (3, u "EMPTY_MAP"), (0, u "Ljava/util/ImmutableCollections$MapN;"), (4, u "EXPAND_FACTOR"), (0, u "I"), (18, u "listFromArray"), (17, .class_ 170), (0, u "java/util/ImmutableCollections$MapN$MapNIterator"), (0, .class_ 172), (0, u "java/util/ImmutableCollections$MapN$1"), (0, .class_ 174), (0, u "java/util/ImmutableCollections$Map1"), (0, .class_ 176), (0, u "java/util/ImmutableCollections$AbstractImmutableMap"), (0, .class_ 178), (0, u "java/util/ImmutableCollections$SetN$SetNIterator"), (0, .class_ 180), (0, u "java/util/ImmutableCollections$Set12"), (0, .class_ 182), (0, u "java/util/ImmutableCollections$Set12$1"), (0, .class_ 184), (0, u "java/util/ImmutableCollections$AbstractImmutableSet"), (0, .class_ 186), (0, u "java/util/ImmutableCollections$SubList"), (0, .class_ 188), (0, u "java/util/ImmutableCollections$ListItr"), (0, .class_ 190), (0, u "java/util/ImmutableCollections$AbstractImmutableList"), (0, .class_ 192), (0, u "java/util/ImmutableCollections$AbstractImmutableCollection"), (0, .class_ 194), (0, u "java/util/ImmutableCollections$Access"), (0, .class_ 196), (0, u "java/util/ImmutableCollections$Access$1")] 16

def k13m0 : Method := { name := "<init>", desc := "()V", sig := { parameters := [], returnType := none }, accessFlags := 2, code := none }
def k13c1 : Code := { maxStack := 4, maxLocals := 3, code := jdk_56_method_4_code, exceptionTable := #[], attributes := #[] }
def k13m1 : Method := { name := "listFromArray", desc := "([Ljava/lang/Object;)Ljava/util/List;", sig := { parameters := [(.array (.object "java/lang/Object"))], returnType := some (.object "java/util/List") }, accessFlags := 136, code := some k13c1 }
/-- java/util/ImmutableCollections -/
def k13 : Class := { plain "java/util/ImmutableCollections" (some 0) with
  accessFlags := 32
  interfaces := #[]
  cf := some (fileOf pool13 47 #[.nestMembers #[120, 169, 171, 173, 175, 111, 177, 179, 181, 183, 12, 10, 185, 187, 189, 191, 193, 195]] #[{ accessFlags := 2, nameIndex := 5, descriptorIndex := 6, attributes := #[] }, { accessFlags := 136, nameIndex := 151, descriptorIndex := 36, attributes := #[] }] 32 2 #[] #[{ accessFlags := 26, nameIndex := 95, descriptorIndex := 96, attributes := #[] }, { accessFlags := 26, nameIndex := 99, descriptorIndex := 17, attributes := #[] }, { accessFlags := 10, nameIndex := 106, descriptorIndex := 56, attributes := #[] }, { accessFlags := 26, nameIndex := 109, descriptorIndex := 110, attributes := #[] }, { accessFlags := 24, nameIndex := 62, descriptorIndex := 63, attributes := #[] }, { accessFlags := 24, nameIndex := 72, descriptorIndex := 63, attributes := #[] }, { accessFlags := 24, nameIndex := 118, descriptorIndex := 119, attributes := #[] }, { accessFlags := 24, nameIndex := 125, descriptorIndex := 126, attributes := #[] }, { accessFlags := 24, nameIndex := 131, descriptorIndex := 132, attributes := #[] }, { accessFlags := 4120, nameIndex := 50, descriptorIndex := 17, attributes := #[] }])
  fields := #[{ name := "SALT32L", type := .long, accessFlags := 26, slot := 0, constantValue := 0 }, { name := "REVERSE", type := .boolean, accessFlags := 26, slot := 1, constantValue := 0 }, { name := "archivedObjects", type := (.array (.object "java/lang/Object")), accessFlags := 10, slot := 2, constantValue := 0 }, { name := "EMPTY", type := (.object "java/lang/Object"), accessFlags := 26, slot := 3, constantValue := 0 }, { name := "EMPTY_LIST", type := (.object "java/util/ImmutableCollections$ListN"), accessFlags := 24, slot := 4, constantValue := 0 }, { name := "EMPTY_LIST_NULLS", type := (.object "java/util/ImmutableCollections$ListN"), accessFlags := 24, slot := 5, constantValue := 0 }, { name := "EMPTY_SET", type := (.object "java/util/ImmutableCollections$SetN"), accessFlags := 24, slot := 6, constantValue := 0 }, { name := "EMPTY_MAP", type := (.object "java/util/ImmutableCollections$MapN"), accessFlags := 24, slot := 7, constantValue := 0 }, { name := "EXPAND_FACTOR", type := .int, accessFlags := 24, slot := 8, constantValue := 0 }, { name := "$assertionsDisabled", type := .boolean, accessFlags := 4120, slot := 9, constantValue := 0 }]
  methods := #[k13m0, k13m1]
  instanceTypes := #[]
  staticTypes := #[.long, .boolean, (.array (.object "java/lang/Object")), (.object "java/lang/Object"), (.object "java/util/ImmutableCollections$ListN"), (.object "java/util/ImmutableCollections$ListN"), (.object "java/util/ImmutableCollections$SetN"), (.object "java/util/ImmutableCollections$MapN"), .int, .boolean]
  resolved := Array.replicate 213 none
  statics := some 1 }

def pool14 : Array CpInfo := pool [(2, .class_ 4), (1, u "java/lang/Object"), (0, u "<init>"), (0, u "()V"), (7, .methodref 2 15), (0, .nameAndType 16 17), (0, u "equals"), (0, u "(Ljava/lang/Object;)Z"), (5, u "(Ljava/lang/Object;Ljava/lang/Object;)Z"), (18, .class_ 44), (1, u "java/util/Objects"), (0, u "requireNonNull"), (0, u "(Ljava/lang/Object;)Ljava/lang/Object;")] 137

def k14m0 : Method := { name := "<init>", desc := "()V", sig := { parameters := [], returnType := none }, accessFlags := 2, code := none }
def k14c1 : Code := { maxStack := 2, maxLocals := 2, code := jdk_31_method_2_code, exceptionTable := #[], attributes := #[] }
def k14m1 : Method := { name := "equals", desc := "(Ljava/lang/Object;Ljava/lang/Object;)Z", sig := { parameters := [(.object "java/lang/Object"), (.object "java/lang/Object")], returnType := some .boolean }, accessFlags := 9, code := some k14c1 }
def k14c2 : Code := { maxStack := 2, maxLocals := 1, code := jdk_31_method_10_code, exceptionTable := #[], attributes := #[] }
def k14m2 : Method := { name := "requireNonNull", desc := "(Ljava/lang/Object;)Ljava/lang/Object;", sig := { parameters := [(.object "java/lang/Object")], returnType := some (.object "java/lang/Object") }, accessFlags := 9, code := some k14c2 }
/-- java/util/Objects -/
def k14 : Class := { plain "java/util/Objects" (some 0) with
  accessFlags := 49
  interfaces := #[]
  cf := some (fileOf pool14 42 #[] #[{ accessFlags := 2, nameIndex := 5, descriptorIndex := 6, attributes := #[] }, { accessFlags := 9, nameIndex := 16, descriptorIndex := 23, attributes := #[] }, { accessFlags := 9, nameIndex := 45, descriptorIndex := 46, attributes := #[] }] 49 2 #[] #[])
  fields := #[]
  methods := #[k14m0, k14m1, k14m2]
  instanceTypes := #[]
  staticTypes := #[]
  resolved := Array.replicate 184 none
  statics := none }

def pool15 : Array CpInfo := pool [(1, .methodref 2 3), (0, .class_ 4), (0, .nameAndType 5 6), (0, u "java/lang/Object"), (0, u "<init>"), (0, u "()V"), (1, .class_ 10), (1, u "java/util/AbstractCollection"), (66, .class_ 78), (0, u "java/util/Collection")] 81

def k15c0 : Code := { maxStack := 1, maxLocals := 1, code := jdk_22_method_1_code, exceptionTable := #[], attributes := #[] }
def k15m0 : Method := { name := "<init>", desc := "()V", sig := { parameters := [], returnType := none }, accessFlags := 4, code := some k15c0 }
/-- java/util/AbstractCollection -/
def k15 : Class := { plain "java/util/AbstractCollection" (some 0) with
  accessFlags := 1057
  interfaces := #[10]
  cf := some (fileOf pool15 8 #[] #[{ accessFlags := 4, nameIndex := 5, descriptorIndex := 6, attributes := #[] }] 1057 2 #[77] #[])
  fields := #[]
  methods := #[k15m0]
  instanceTypes := #[]
  staticTypes := #[]
  resolved := Array.replicate 160 none
  statics := none }

def pool16 : Array CpInfo := pool [(1, .methodref 2 3), (0, .class_ 4), (0, .nameAndType 5 6), (0, u "java/util/AbstractCollection"), (0, u "<init>"), (0, u "()V"), (1, .class_ 10), (1, u "java/util/ImmutableCollections"), (2, .class_ 14), (0, u "java/util/ImmutableCollections$AbstractImmutableCollection")] 41

def k16c0 : Code := { maxStack := 1, maxLocals := 1, code := jdk_47_method_1_code, exceptionTable := #[], attributes := #[] }
def k16m0 : Method := { name := "<init>", desc := "()V", sig := { parameters := [], returnType := none }, accessFlags := 0, code := some k16c0 }
/-- java/util/ImmutableCollections$AbstractImmutableCollection -/
def k16 : Class := { plain "java/util/ImmutableCollections$AbstractImmutableCollection" (some 15) with
  accessFlags := 1056
  interfaces := #[]
  cf := some (fileOf pool16 13 #[.nestHost 8] #[{ accessFlags := 0, nameIndex := 5, descriptorIndex := 6, attributes := #[] }] 1056 2 #[] #[])
  fields := #[]
  methods := #[k16m0]
  instanceTypes := #[]
  staticTypes := #[]
  resolved := Array.replicate 56 none
  statics := none }

def pool17 : Array CpInfo := pool [(1, .class_ 2), (0, u "java/util/RandomAccess"), (0, .class_ 4), (0, u "java/lang/Object")] 2

/-- java/util/RandomAccess -/
def k17 : Class := { plain "java/util/RandomAccess" (some 0) with
  accessFlags := 1537
  interfaces := #[]
  cf := some (fileOf pool17 1 #[] #[] 1537 3 #[] #[])
  fields := #[]
  methods := #[]
  instanceTypes := #[]
  staticTypes := #[]
  resolved := Array.replicate 7 none
  statics := none }

def pool18 : Array CpInfo := pool [(1, .methodref 2 3), (0, .class_ 4), (0, .nameAndType 5 6), (0, u "java/util/ImmutableCollections$AbstractImmutableCollection"), (0, u "<init>"), (0, u "()V"), (1, .class_ 10), (1, u "java/util/ImmutableCollections"), (3, .class_ 16), (1, u "java/util/ImmutableCollections$AbstractImmutableList"), (60, .class_ 78), (0, u "java/util/List"), (45, .class_ 125), (0, u "java/util/RandomAccess")] 70

def k18c0 : Code := { maxStack := 1, maxLocals := 1, code := jdk_46_method_1_code, exceptionTable := #[], attributes := #[] }
def k18m0 : Method := { name := "<init>", desc := "()V", sig := { parameters := [], returnType := none }, accessFlags := 0, code := some k18c0 }
/-- java/util/ImmutableCollections$AbstractImmutableList -/
def k18 : Class := { plain "java/util/ImmutableCollections$AbstractImmutableList" (some 16) with
  accessFlags := 1056
  interfaces := #[12, 17]
  cf := some (fileOf pool18 14 #[.nestHost 8] #[{ accessFlags := 0, nameIndex := 5, descriptorIndex := 6, attributes := #[] }] 1056 2 #[77, 124] #[])
  fields := #[]
  methods := #[k18m0]
  instanceTypes := #[]
  staticTypes := #[]
  resolved := Array.replicate 196 none
  statics := none }

def pool19 : Array CpInfo := pool [(1, .methodref 2 3), (0, .class_ 4), (0, .nameAndType 5 6), (0, u "java/util/ImmutableCollections$AbstractImmutableList"), (0, u "<init>"), (0, u "()V"), (0, .fieldref 8 9), (0, .class_ 10), (0, .nameAndType 11 12), (0, u "java/util/ImmutableCollections$ListN"), (0, u "elements"), (0, u "[Ljava/lang/Object;"), (0, .fieldref 8 14), (0, .nameAndType 15 16), (0, u "allowNulls"), (0, u "Z"), (36, .methodref 54 55), (0, .class_ 56), (0, .nameAndType 57 58), (0, u "java/util/Objects"), (0, u "equals"), (0, u "(Ljava/lang/Object;Ljava/lang/Object;)Z"), (0, .class_ 60), (0, u "java/io/Serializable"), (4, u "([Ljava/lang/Object;Z)V"), (35, u "indexOf"), (0, u "(Ljava/lang/Object;)I"), (11, .class_ 115), (0, u "java/util/ImmutableCollections")] 3

def k19c0 : Code := { maxStack := 2, maxLocals := 3, code := jdk_45_method_1_code, exceptionTable := #[], attributes := #[] }
def k19m0 : Method := { name := "<init>", desc := "([Ljava/lang/Object;Z)V", sig := { parameters := [(.array (.object "java/lang/Object")), .boolean], returnType := none }, accessFlags := 2, code := some k19c0 }
def k19c1 : Code := { maxStack := 3, maxLocals := 4, code := jdk_45_method_9_code, exceptionTable := #[], attributes := #[] }
def k19m1 : Method := { name := "indexOf", desc := "(Ljava/lang/Object;)I", sig := { parameters := [(.object "java/lang/Object")], returnType := some .int }, accessFlags := 1, code := some k19c1 }
/-- java/util/ImmutableCollections$ListN -/
def k19 : Class := { plain "java/util/ImmutableCollections$ListN" (some 18) with
  accessFlags := 48
  interfaces := #[2]
  cf := some (fileOf pool19 8 #[.nestHost 114] #[{ accessFlags := 2, nameIndex := 5, descriptorIndex := 65, attributes := #[] }, { accessFlags := 1, nameIndex := 101, descriptorIndex := 102, attributes := #[] }] 48 2 #[59] #[{ accessFlags := 18, nameIndex := 11, descriptorIndex := 12, attributes := #[] }, { accessFlags := 18, nameIndex := 15, descriptorIndex := 16, attributes := #[] }])
  fields := #[{ name := "elements", type := (.array (.object "java/lang/Object")), accessFlags := 18, slot := 0, constantValue := 0 }, { name := "allowNulls", type := .boolean, accessFlags := 18, slot := 1, constantValue := 0 }]
  methods := #[k19m0, k19m1]
  instanceTypes := #[(.array (.object "java/lang/Object")), .boolean]
  staticTypes := #[]
  resolved := Array.replicate 119 none
  statics := none }

def pool20 : Array CpInfo := pool [(1, .class_ 2), (0, u "java/lang/Cloneable"), (0, .class_ 4), (0, u "java/lang/Object")] 2

/-- java/lang/Cloneable -/
def k20 : Class := { plain "java/lang/Cloneable" (some 0) with
  accessFlags := 1537
  interfaces := #[]
  cf := some (fileOf pool20 1 #[] #[] 1537 3 #[] #[])
  fields := #[]
  methods := #[]
  instanceTypes := #[]
  staticTypes := #[]
  resolved := Array.replicate 7 none
  statics := none }

def pool21 : Array CpInfo := pool [(4, .class_ 6), (1, u "java/lang/Object"), (0, u "<init>"), (0, u "()V"), (5, .class_ 16), (1, u "java/lang/StringLatin1"), (104, u "$assertionsDisabled"), (0, u "Z"), (98, .class_ 223), (1, u "java/lang/StringLatin1$LinesSpliterator"), (57, u "equals"), (0, u "([B[B)Z"), (107, .class_ 391), (0, u "java/lang/StringLatin1$CharsSpliterator")] 3

def k21m0 : Method := { name := "<init>", desc := "()V", sig := { parameters := [], returnType := none }, accessFlags := 0, code := none }
def k21c1 : Code := { maxStack := 3, maxLocals := 3, code := jdk_43_method_13_code, exceptionTable := #[], attributes := #[] }
def k21m1 : Method := { name := "equals", desc := "([B[B)Z", sig := { parameters := [(.array .byte), (.array .byte)], returnType := some .boolean }, accessFlags := 9, code := some k21c1 }
/-- java/lang/StringLatin1 -/
def k21 : Class := { plain "java/lang/StringLatin1" (some 0) with
  accessFlags := 48
  interfaces := #[]
  cf := some (fileOf pool21 14 #[.nestMembers #[390, 221]] #[{ accessFlags := 0, nameIndex := 7, descriptorIndex := 8, attributes := #[] }, { accessFlags := 9, nameIndex := 281, descriptorIndex := 282, attributes := #[] }] 48 4 #[] #[{ accessFlags := 4120, nameIndex := 121, descriptorIndex := 122, attributes := #[] }])
  fields := #[{ name := "$assertionsDisabled", type := .boolean, accessFlags := 4120, slot := 0, constantValue := 0 }]
  methods := #[k21m0, k21m1]
  instanceTypes := #[]
  staticTypes := #[.boolean]
  resolved := Array.replicate 395 none
  statics := none }

def pool22 : Array CpInfo := pool [(1, .methodref 2 3), (0, .class_ 4), (0, .nameAndType 5 6), (0, u "java/util/ImmutableCollections$AbstractImmutableList"), (0, u "<init>"), (0, u "()V"), (0, .methodref 8 9), (0, .class_ 10), (0, .nameAndType 11 12), (0, u "java/util/Objects"), (0, u "requireNonNull"), (0, u "(Ljava/lang/Object;)Ljava/lang/Object;"), (0, .fieldref 14 15), (0, .class_ 16), (0, .nameAndType 17 18), (0, u "java/util/ImmutableCollections$List12"), (0, u "e0"), (0, u "Ljava/lang/Object;"), (0, .fieldref 20 21), (0, .class_ 22), (0, .nameAndType 23 18), (0, u "java/util/ImmutableCollections"), (0, u "EMPTY"), (0, .fieldref 14 25), (0, .nameAndType 26 18), (0, u "e1"), (4, .methodref 32 33), (0, .class_ 34), (0, .nameAndType 35 36), (0, u "java/lang/Object"), (0, u "equals"), (0, u "(Ljava/lang/Object;)Z"), (33, .class_ 71), (0, u "java/io/Serializable"), (4, u "(Ljava/lang/Object;)V"), (8, u "(Ljava/lang/Object;Ljava/lang/Object;)V"), (9, u "indexOf"), (0, u "(Ljava/lang/Object;)I")] 28

def k22c0 : Code := { maxStack := 2, maxLocals := 2, code := jdk_44_method_1_code, exceptionTable := #[], attributes := #[] }
def k22m0 : Method := { name := "<init>", desc := "(Ljava/lang/Object;)V", sig := { parameters := [(.object "java/lang/Object")], returnType := none }, accessFlags := 0, code := some k22c0 }
def k22c1 : Code := { maxStack := 2, maxLocals := 3, code := jdk_44_method_2_code, exceptionTable := #[], attributes := #[] }
def k22m1 : Method := { name := "<init>", desc := "(Ljava/lang/Object;Ljava/lang/Object;)V", sig := { parameters := [(.object "java/lang/Object"), (.object "java/lang/Object")], returnType := none }, accessFlags := 0, code := some k22c1 }
def k22c2 : Code := { maxStack := 2, maxLocals := 2, code := jdk_44_method_6_code, exceptionTable := #[], attributes := #[] }
def k22m2 : Method := { name := "indexOf", desc := "(Ljava/lang/Object;)I", sig := { parameters := [(.object "java/lang/Object")], returnType := some .int }, accessFlags := 1, code := some k22c2 }
/-- java/util/ImmutableCollections$List12 -/
def k22 : Class := { plain "java/util/ImmutableCollections$List12" (some 18) with
  accessFlags := 48
  interfaces := #[2]
  cf := some (fileOf pool22 14 #[.nestHost 20] #[{ accessFlags := 0, nameIndex := 5, descriptorIndex := 76, attributes := #[] }, { accessFlags := 0, nameIndex := 5, descriptorIndex := 85, attributes := #[] }, { accessFlags := 1, nameIndex := 95, descriptorIndex := 96, attributes := #[] }] 48 2 #[70] #[{ accessFlags := 18, nameIndex := 17, descriptorIndex := 18, attributes := #[] }, { accessFlags := 18, nameIndex := 26, descriptorIndex := 18, attributes := #[] }])
  fields := #[{ name := "e0", type := (.object "java/lang/Object"), accessFlags := 18, slot := 0, constantValue := 0 }, { name := "e1", type := (.object "java/lang/Object"), accessFlags := 18, slot := 1, constantValue := 0 }]
  methods := #[k22m0, k22m1, k22m2]
  instanceTypes := #[(.object "java/lang/Object"), (.object "java/lang/Object")]
  staticTypes := #[]
  resolved := Array.replicate 125 none
  statics := none }

def pool23 : Array CpInfo := pool [(2, .class_ 4), (1, u "java/lang/Object"), (0, u "<init>"), (0, u "()V"), (17, .class_ 26), (1, u "jdk/internal/util/Preconditions"), (28, .class_ 56), (0, u "jdk/internal/util/Preconditions$4"), (57, .class_ 115), (0, u "jdk/internal/util/Preconditions$1"), (7, u "SIOOBE_FORMATTER"), (0, u "Ljava/util/function/BiFunction;"), (0, .class_ 126), (0, u "jdk/internal/util/Preconditions$2"), (3, u "AIOOBE_FORMATTER"), (0, .class_ 132), (0, u "jdk/internal/util/Preconditions$3"), (3, u "IOOBE_FORMATTER")] 57

def k23m0 : Method := { name := "<init>", desc := "()V", sig := { parameters := [], returnType := none }, accessFlags := 1, code := none }
/-- jdk/internal/util/Preconditions -/
def k23 : Class := { plain "jdk/internal/util/Preconditions" (some 0) with
  accessFlags := 33
  interfaces := #[]
  cf := some (fileOf pool23 24 #[.nestMembers #[55, 131, 125, 114]] #[{ accessFlags := 1, nameIndex := 5, descriptorIndex := 6, attributes := #[] }] 33 2 #[] #[{ accessFlags := 25, nameIndex := 123, descriptorIndex := 124, attributes := #[] }, { accessFlags := 25, nameIndex := 130, descriptorIndex := 124, attributes := #[] }, { accessFlags := 25, nameIndex := 136, descriptorIndex := 124, attributes := #[] }])
  fields := #[{ name := "SIOOBE_FORMATTER", type := (.object "java/util/function/BiFunction"), accessFlags := 25, slot := 0, constantValue := 0 }, { name := "AIOOBE_FORMATTER", type := (.object "java/util/function/BiFunction"), accessFlags := 25, slot := 1, constantValue := 0 }, { name := "IOOBE_FORMATTER", type := (.object "java/util/function/BiFunction"), accessFlags := 25, slot := 2, constantValue := 0 }]
  methods := #[k23m0]
  instanceTypes := #[]
  staticTypes := #[(.object "java/util/function/BiFunction"), (.object "java/util/function/BiFunction"), (.object "java/util/function/BiFunction")]
  resolved := Array.replicate 194 none
  statics := some 2 }

def pool24 : Array CpInfo := pool [(9, u "<init>"), (6, .class_ 18), (1, u "java/lang/Object"), (0, u "()V"), (1, .class_ 23), (1, u "jdk/internal/util/ArraysSupport"), (0, u "LOG2_ARRAY_LONG_INDEX_SCALE"), (0, u "I"), (2, u "U"), (0, u "Ljdk/internal/misc/Unsafe;"), (8, u "BIG_ENDIAN"), (0, u "Z"), (8, u "LOG2_BYTE_BIT_SIZE"), (4, u "LOG2_ARRAY_INT_INDEX_SCALE"), (54, u "JLA"), (0, u "Ljdk/internal/access/JavaLangAccess;"), (11, u "LOG2_ARRAY_BOOLEAN_INDEX_SCALE"), (9, u "LOG2_ARRAY_BYTE_INDEX_SCALE"), (5, u "LOG2_ARRAY_CHAR_INDEX_SCALE"), (5, u "LOG2_ARRAY_SHORT_INDEX_SCALE"), (18, u "LOG2_ARRAY_FLOAT_INDEX_SCALE"), (24, u "LOG2_ARRAY_DOUBLE_INDEX_SCALE"), (89, u "T_BOOLEAN"), (2, u "T_CHAR"), (1, u "T_FLOAT"), (1, u "T_DOUBLE"), (1, u "T_BYTE"), (1, u "T_SHORT"), (1, u "T_INT"), (1, u "T_LONG"), (1, u "SOFT_MAX_ARRAY_LENGTH")] 83

def k24m0 : Method := { name := "<init>", desc := "()V", sig := { parameters := [], returnType := none }, accessFlags := 2, code := none }
/-- jdk/internal/util/ArraysSupport -/
def k24 : Class := { plain "jdk/internal/util/ArraysSupport" (some 0) with
  accessFlags := 33
  interfaces := #[]
  cf := some (fileOf pool24 21 #[] #[{ accessFlags := 2, nameIndex := 9, descriptorIndex := 19, attributes := #[] }] 33 16 #[] #[{ accessFlags := 24, nameIndex := 28, descriptorIndex := 29, attributes := #[] }, { accessFlags := 26, nameIndex := 38, descriptorIndex := 39, attributes := #[] }, { accessFlags := 25, nameIndex := 121, descriptorIndex := 25, attributes := #[] }, { accessFlags := 25, nameIndex := 131, descriptorIndex := 25, attributes := #[] }, { accessFlags := 25, nameIndex := 137, descriptorIndex := 25, attributes := #[] }, { accessFlags := 25, nameIndex := 143, descriptorIndex := 25, attributes := #[] }, { accessFlags := 25, nameIndex := 53, descriptorIndex := 25, attributes := #[] }, { accessFlags := 25, nameIndex := 24, descriptorIndex := 25, attributes := #[] }, { accessFlags := 25, nameIndex := 162, descriptorIndex := 25, attributes := #[] }, { accessFlags := 25, nameIndex := 187, descriptorIndex := 25, attributes := #[] }, { accessFlags := 26, nameIndex := 48, descriptorIndex := 25, attributes := #[] }, { accessFlags := 25, nameIndex := 277, descriptorIndex := 25, attributes := #[] }, { accessFlags := 25, nameIndex := 280, descriptorIndex := 25, attributes := #[] }, { accessFlags := 25, nameIndex := 282, descriptorIndex := 25, attributes := #[] }, { accessFlags := 25, nameIndex := 284, descriptorIndex := 25, attributes := #[] }, { accessFlags := 25, nameIndex := 286, descriptorIndex := 25, attributes := #[] }, { accessFlags := 25, nameIndex := 288, descriptorIndex := 25, attributes := #[] }, { accessFlags := 25, nameIndex := 290, descriptorIndex := 25, attributes := #[] }, { accessFlags := 25, nameIndex := 292, descriptorIndex := 25, attributes := #[] }, { accessFlags := 26, nameIndex := 108, descriptorIndex := 109, attributes := #[] }, { accessFlags := 25, nameIndex := 294, descriptorIndex := 25, attributes := #[] }])
  fields := #[{ name := "U", type := (.object "jdk/internal/misc/Unsafe"), accessFlags := 24, slot := 0, constantValue := 0 }, { name := "BIG_ENDIAN", type := .boolean, accessFlags := 26, slot := 1, constantValue := 0 }, { name := "LOG2_ARRAY_BOOLEAN_INDEX_SCALE", type := .int, accessFlags := 25, slot := 2, constantValue := 0 }, { name := "LOG2_ARRAY_BYTE_INDEX_SCALE", type := .int, accessFlags := 25, slot := 3, constantValue := 0 }, { name := "LOG2_ARRAY_CHAR_INDEX_SCALE", type := .int, accessFlags := 25, slot := 4, constantValue := 0 }, { name := "LOG2_ARRAY_SHORT_INDEX_SCALE", type := .int, accessFlags := 25, slot := 5, constantValue := 0 }, { name := "LOG2_ARRAY_INT_INDEX_SCALE", type := .int, accessFlags := 25, slot := 6, constantValue := 0 }, { name := "LOG2_ARRAY_LONG_INDEX_SCALE", type := .int, accessFlags := 25, slot := 7, constantValue := 0 }, { name := "LOG2_ARRAY_FLOAT_INDEX_SCALE", type := .int, accessFlags := 25, slot := 8, constantValue := 0 }, { name := "LOG2_ARRAY_DOUBLE_INDEX_SCALE", type := .int, accessFlags := 25, slot := 9, constantValue := 0 }, { name := "LOG2_BYTE_BIT_SIZE", type := .int, accessFlags := 26, slot := 10, constantValue := 0 }, { name := "T_BOOLEAN", type := .int, accessFlags := 25, slot := 11, constantValue := 0 }, { name := "T_CHAR", type := .int, accessFlags := 25, slot := 12, constantValue := 0 }, { name := "T_FLOAT", type := .int, accessFlags := 25, slot := 13, constantValue := 0 }, { name := "T_DOUBLE", type := .int, accessFlags := 25, slot := 14, constantValue := 0 }, { name := "T_BYTE", type := .int, accessFlags := 25, slot := 15, constantValue := 0 }, { name := "T_SHORT", type := .int, accessFlags := 25, slot := 16, constantValue := 0 }, { name := "T_INT", type := .int, accessFlags := 25, slot := 17, constantValue := 0 }, { name := "T_LONG", type := .int, accessFlags := 25, slot := 18, constantValue := 0 }, { name := "JLA", type := (.object "jdk/internal/access/JavaLangAccess"), accessFlags := 26, slot := 19, constantValue := 0 }, { name := "SOFT_MAX_ARRAY_LENGTH", type := .int, accessFlags := 25, slot := 20, constantValue := 0 }]
  methods := #[k24m0]
  instanceTypes := #[]
  staticTypes := #[(.object "jdk/internal/misc/Unsafe"), .boolean, .int, .int, .int, .int, .int, .int, .int, .int, .int, .int, .int, .int, .int, .int, .int, .int, .int, (.object "jdk/internal/access/JavaLangAccess"), .int]
  resolved := Array.replicate 378 none
  statics := none }

/-- the primitive byte -/
def k25 : Class := { plain "byte" none with kind := .primitive 'B', accessFlags := 0x411 }
/-- [B -/
def k26 : Class := { plain "[B" (some 0) with kind := .array 25 .byte, interfaces := #[20, 2], accessFlags := 1041 }

/-- the primitive int -/
def k27 : Class := { plain "int" none with kind := .primitive 'I', accessFlags := 0x411 }
/-- [I -/
def k28 : Class := { plain "[I" (some 0) with kind := .array 27 .int, interfaces := #[20, 2], accessFlags := 1041 }

/-- [Ljava/lang/Object; -/
def k29 : Class := { plain "[Ljava/lang/Object;" (some 0) with kind := .array 0 (.object "java/lang/Object"), interfaces := #[20, 2], accessFlags := 1041 }

/-- [Ljava/lang/String; -/
def k30 : Class := { plain "[Ljava/lang/String;" (some 0) with kind := .array 7 (.object "java/lang/String"), interfaces := #[20, 2], accessFlags := 1041 }

def heap : Heap := #[{ cls := 7, slots := #[.long 0, .int 1, .null, .int 0, .null, .int 0, .int 0], vm := .statics 7 },
  { cls := 13, slots := #[.long 0, .int 0, .null, .ref 5, .ref 4, .null, .null, .null, .int 0, .int 1], vm := .statics 13 },
  { cls := 23, slots := #[.null, .null, .null], vm := .statics 23 },
  { cls := 29, slots := #[], vm := .none },
  { cls := 19, slots := #[.ref 3, .int 0], vm := .none },
  { cls := 0, slots := #[], vm := .none }]
def classes : Array Class := #[k0, k1, k2, k3, k4, k5, k6, k7, k8, k9, k10, k11, k12, k13, k14, k15, k16, k17, k18, k19, k20, k21, k22, k23, k24, k25, k26, k27, k28, k29, k30]
def interned : List (Array UInt16 × Addr) := []
def slotsUsed : Nat := 22
def theMethod : MethodId := ⟨1, 2⟩
def args0 : Array Value := #[.int 5, .int 27, .int 7]
def aboutOver (below : List Frame) : State where
  vm := { classes := classes, interned := interned.toArray }
  heap := heap
  slotsUsed := slotsUsed
  threads := #[{ frames := .invoking theMethod args0 :: below }]
def below0 : List Frame := [.native { method := ⟨0, 0⟩, args := #[] }]
def about1 : State := aboutOver below0
def p0 : Program := .bare "" "" ""
def e0 : Env := launch0.env 0 0 0
theorem w_frames : about1.frames = Frame.invoking theMethod args0 :: below0 := rfl
set_option maxRecDepth 65536 in
theorem w_args : argsFit about1.vm theMethod args0 = true := by decide +kernel
set_option maxRecDepth 65536 in
theorem w_heap : heapFits about1 = true := by decide +kernel
set_option maxRecDepth 65536 in
theorem w_runnable : about1.curStatus? = some .runnable := by decide +kernel
set_option maxRecDepth 65536 in
theorem w_alone : about1.alone = true := by decide +kernel
set_option maxRecDepth 65536 in
theorem w_named : about1.methodNamed? x = some theMethod := by decide +kernel
set_option maxRecDepth 65536 in
theorem w_hears : about1.hears theMethod below0 = true := by decide +kernel
set_option maxRecDepth 65536 in
theorem w_ripe : about1.ripe theMethod args0 below0 = true := by decide +kernel
theorem w_running : about1.status = .running := rfl
set_option maxRecDepth 65536 in
theorem w_room : about1.hasRoom e0.platform room_1 = true :=
  launch0.hasRoom_least _ room_1 (by decide +kernel) (by decide +kernel) (by decide +kernel) (by decide +kernel) (by decide +kernel) (by decide +kernel)
theorem allAtoms_all (ts : List Jvm.Cond) (a : Array Jvm.Value) (st : Jvm.State) : (allAtoms ts).before a st = ts.all (fun c => c.before a st) := by
  induction ts with
  | nil => rfl
  | cons c t ih =>
    show (Jvm.Cond.and c (allAtoms t)).before a st = _
    rw [Jvm.Cond.before_and, ih, List.all_cons]
def words1 : List Jvm.Cond := Jvm.Cond.code x code maxLocals ret :: tables_1
/-- a 'code' word, met by the world's own term for the bytes: nothing is compared byte by byte -/
theorem code_word {y : MethodName} {bytes : ByteArray} {mx : Nat} {rt : Option FieldType} {a : Array Value} {s : State} {m : MethodId} {meth : Method} {c : Code} (h1 : s.methodNamed? y = some m) (h2 : s.vm.method? m = some meth) (h3 : meth.code = some c) (h4 : c.code = bytes)
    (h5 : (c.maxLocals == mx && c.exceptionTable.isEmpty && decide (c.maxStack ≤ mostOperands) && decide (meth.sig.returnType = rt) && !meth.locks && decide (parseMethodDescriptor y.desc = some meth.sig)) = true) : (Jvm.Cond.code y bytes mx rt).before a s = true := by
  simp only [Bool.and_eq_true, beq_iff_eq, Bool.not_eq_true', decide_eq_true_eq] at h5
  obtain ⟨⟨⟨⟨⟨g1, g2⟩, g3⟩, g4⟩, g5⟩, g6⟩ := h5
  simp [Cond.before, Cond.holds, Cond.value, h1, h2, h3, h4, g1, g2, g3, g4, g5, g6]
def isCode : Jvm.Cond → Bool
  | .code _ _ _ _ => true
  | _ => false
theorem all_split {L : List Jvm.Cond} {P : Jvm.Cond → Bool} (h1 : L.all (fun c => isCode c || P c) = true) (h2 : ∀ c ∈ L.filter isCode, P c = true) : L.all P = true := by
  refine List.all_eq_true.mpr fun c hc => ?_
  have h := List.all_eq_true.mp h1 c hc
  rcases Bool.eq_false_or_eq_true (isCode c) with hi | hi
  · exact h2 c (List.mem_filter.mpr ⟨hc, hi⟩)
  · simpa [hi] using h
set_option maxRecDepth 65536 in
theorem w_c0 : (Jvm.Cond.code x code maxLocals ret).before args0 about1 = true := code_word (m := ⟨1, 2⟩) (meth := k1m2) (c := k1c2) (by decide +kernel) rfl rfl rfl (by decide +kernel)
set_option maxRecDepth 65536 in
theorem w_c1 : (Jvm.Cond.code ({ cls := "com/example/grantline/grantline/engine/ActionsImpliedMaskPinLaw", name := "names", desc := "(I)[Ljava/lang/String;" } : Jvm.MethodName) method_2_code (1 : Nat) (Option.some (Jvm.ClassFile.FieldType.array (Jvm.ClassFile.FieldType.object "java/lang/String")))).before args0 about1 = true := code_word (m := ⟨1, 1⟩) (meth := k1m1) (c := k1c1) (by decide +kernel) rfl rfl rfl (by decide +kernel)
set_option maxRecDepth 65536 in
theorem w_c2 : (Jvm.Cond.code ({ cls := "com/example/grantline/grantline/engine/Actions", name := "<init>", desc := "([Ljava/lang/String;)V" } : Jvm.MethodName) prog_18_method_1_code (3 : Nat) (Option.none : Option Jvm.ClassFile.FieldType)).before args0 about1 = true := code_word (m := ⟨8, 0⟩) (meth := k8m0) (c := k8c0) (by decide +kernel) rfl rfl rfl (by decide +kernel)
set_option maxRecDepth 65536 in
theorem w_c3 : (Jvm.Cond.code ({ cls := "java/util/List", name := "of", desc := "([Ljava/lang/Object;)Ljava/util/List;" } : Jvm.MethodName) jdk_40_method_47_code (2 : Nat) (Option.some (Jvm.ClassFile.FieldType.object "java/util/List"))).before args0 about1 = true := code_word (m := ⟨12, 1⟩) (meth := k12m1) (c := k12c1) (by decide +kernel) rfl rfl rfl (by decide +kernel)
set_option maxRecDepth 65536 in
theorem w_c4 : (Jvm.Cond.code ({ cls := "java/util/ImmutableCollections", name := "listFromArray", desc := "([Ljava/lang/Object;)Ljava/util/List;" } : Jvm.MethodName) jdk_56_method_4_code (3 : Nat) (Option.some (Jvm.ClassFile.FieldType.object "java/util/List"))).before args0 about1 = true := code_word (m := ⟨13, 1⟩) (meth := k13m1) (c := k13c1) (by decide +kernel) rfl rfl rfl (by decide +kernel)
set_option maxRecDepth 65536 in
theorem w_c5 : (Jvm.Cond.code ({ cls := "java/util/Objects", name := "requireNonNull", desc := "(Ljava/lang/Object;)Ljava/lang/Object;" } : Jvm.MethodName) jdk_31_method_10_code (1 : Nat) (Option.some (Jvm.ClassFile.FieldType.object "java/lang/Object"))).before args0 about1 = true := code_word (m := ⟨14, 2⟩) (meth := k14m2) (c := k14c2) (by decide +kernel) rfl rfl rfl (by decide +kernel)
set_option maxRecDepth 65536 in
theorem w_c6 : (Jvm.Cond.code ({ cls := "java/util/ImmutableCollections$ListN", name := "<init>", desc := "([Ljava/lang/Object;Z)V" } : Jvm.MethodName) jdk_45_method_1_code (3 : Nat) (Option.none : Option Jvm.ClassFile.FieldType)).before args0 about1 = true := code_word (m := ⟨19, 0⟩) (meth := k19m0) (c := k19c0) (by decide +kernel) rfl rfl rfl (by decide +kernel)
set_option maxRecDepth 65536 in
theorem w_c7 : (Jvm.Cond.code ({ cls := "java/util/ImmutableCollections$AbstractImmutableList", name := "<init>", desc := "()V" } : Jvm.MethodName) jdk_46_method_1_code (1 : Nat) (Option.none : Option Jvm.ClassFile.FieldType)).before args0 about1 = true := code_word (m := ⟨18, 0⟩) (meth := k18m0) (c := k18c0) (by decide +kernel) rfl rfl rfl (by decide +kernel)
set_option maxRecDepth 65536 in
theorem w_c8 : (Jvm.Cond.code ({ cls := "java/util/ImmutableCollections$AbstractImmutableCollection", name := "<init>", desc := "()V" } : Jvm.MethodName) jdk_47_method_1_code (1 : Nat) (Option.none : Option Jvm.ClassFile.FieldType)).before args0 about1 = true := code_word (m := ⟨16, 0⟩) (meth := k16m0) (c := k16c0) (by decide +kernel) rfl rfl rfl (by decide +kernel)
set_option maxRecDepth 65536 in
theorem w_c9 : (Jvm.Cond.code ({ cls := "java/util/AbstractCollection", name := "<init>", desc := "()V" } : Jvm.MethodName) jdk_22_method_1_code (1 : Nat) (Option.none : Option Jvm.ClassFile.FieldType)).before args0 about1 = true := code_word (m := ⟨15, 0⟩) (meth := k15m0) (c := k15c0) (by decide +kernel) rfl rfl rfl (by decide +kernel)
set_option maxRecDepth 65536 in
theorem w_c10 : (Jvm.Cond.code ({ cls := "java/lang/Object", name := "<init>", desc := "()V" } : Jvm.MethodName) object_method_1_code (1 : Nat) (Option.none : Option Jvm.ClassFile.FieldType)).before args0 about1 = true := code_word (m := ⟨0, 0⟩) (meth := k0m0) (c := k0c0) (by decide +kernel) rfl rfl rfl (by decide +kernel)
set_option maxRecDepth 65536 in
theorem w_c11 : (Jvm.Cond.code ({ cls := "com/example/grantline/grantline/engine/Actions", name := "<init>", desc := "(Ljava/util/List;[I)V" } : Jvm.MethodName) prog_18_method_2_code (3 : Nat) (Option.none : Option Jvm.ClassFile.FieldType)).before args0 about1 = true := code_word (m := ⟨8, 1⟩) (meth := k8m1) (c := k8c1) (by decide +kernel) rfl rfl rfl (by decide +kernel)
set_option maxRecDepth 65536 in
theorem w_c12 : (Jvm.Cond.code ({ cls := "com/example/grantline/grantline/engine/Actions", name := "impliedMask", desc := "(I)I" } : Jvm.MethodName) prog_18_method_5_code (4 : Nat) (Option.some Jvm.ClassFile.FieldType.int)).before args0 about1 = true := code_word (m := ⟨8, 3⟩) (meth := k8m3) (c := k8c3) (by decide +kernel) rfl rfl rfl (by decide +kernel)
set_option maxRecDepth 65536 in
theorem w_c13 : (Jvm.Cond.code ({ cls := "com/example/grantline/grantline/engine/Actions", name := "withImplied", desc := "(Ljava/lang/String;[Ljava/lang/String;)Lcom/example/grantline/grantline/engine/Actions;" } : Jvm.MethodName) prog_18_method_3_code (8 : Nat) (Option.some (Jvm.ClassFile.FieldType.object "com/example/grantline/grantline/engine/Actions"))).before args0 about1 = true := code_word (m := ⟨8, 2⟩) (meth := k8m2) (c := k8c2) (by decide +kernel) rfl rfl rfl (by decide +kernel)
set_option maxRecDepth 65536 in
theorem w_c14 : (Jvm.Cond.code ({ cls := "com/example/grantline/grantline/engine/Actions", name := "index", desc := "(Ljava/lang/String;)I" } : Jvm.MethodName) prog_18_method_6_code (3 : Nat) (Option.some Jvm.ClassFile.FieldType.int)).before args0 about1 = true := code_word (m := ⟨8, 4⟩) (meth := k8m4) (c := k8c4) (by decide +kernel) rfl rfl rfl (by decide +kernel)
set_option maxRecDepth 65536 in
theorem w_c15 : (Jvm.Cond.code ({ cls := "java/util/ImmutableCollections$ListN", name := "indexOf", desc := "(Ljava/lang/Object;)I" } : Jvm.MethodName) jdk_45_method_9_code (4 : Nat) (Option.some Jvm.ClassFile.FieldType.int)).before args0 about1 = true := code_word (m := ⟨19, 1⟩) (meth := k19m1) (c := k19c1) (by decide +kernel) rfl rfl rfl (by decide +kernel)
set_option maxRecDepth 65536 in
theorem w_c16 : (Jvm.Cond.code ({ cls := "java/util/Objects", name := "equals", desc := "(Ljava/lang/Object;Ljava/lang/Object;)Z" } : Jvm.MethodName) jdk_31_method_2_code (2 : Nat) (Option.some Jvm.ClassFile.FieldType.boolean)).before args0 about1 = true := code_word (m := ⟨14, 1⟩) (meth := k14m1) (c := k14c1) (by decide +kernel) rfl rfl rfl (by decide +kernel)
set_option maxRecDepth 65536 in
theorem w_c17 : (Jvm.Cond.code ({ cls := "java/lang/String", name := "equals", desc := "(Ljava/lang/Object;)Z" } : Jvm.MethodName) jdk_42_method_66_code (3 : Nat) (Option.some Jvm.ClassFile.FieldType.boolean)).before args0 about1 = true := code_word (m := ⟨7, 1⟩) (meth := k7m1) (c := k7c1) (by decide +kernel) rfl rfl rfl (by decide +kernel)
set_option maxRecDepth 65536 in
theorem w_c18 : (Jvm.Cond.code ({ cls := "java/lang/StringLatin1", name := "equals", desc := "([B[B)Z" } : Jvm.MethodName) jdk_43_method_13_code (3 : Nat) (Option.some Jvm.ClassFile.FieldType.boolean)).before args0 about1 = true := code_word (m := ⟨21, 1⟩) (meth := k21m1) (c := k21c1) (by decide +kernel) rfl rfl rfl (by decide +kernel)
set_option maxRecDepth 65536 in
theorem w_c19 : (Jvm.Cond.code ({ cls := "java/util/ImmutableCollections$List12", name := "<init>", desc := "(Ljava/lang/Object;Ljava/lang/Object;)V" } : Jvm.MethodName) jdk_44_method_2_code (3 : Nat) (Option.none : Option Jvm.ClassFile.FieldType)).before args0 about1 = true := code_word (m := ⟨22, 1⟩) (meth := k22m1) (c := k22c1) (by decide +kernel) rfl rfl rfl (by decide +kernel)
set_option maxRecDepth 65536 in
theorem w_c20 : (Jvm.Cond.code ({ cls := "java/util/ImmutableCollections$List12", name := "indexOf", desc := "(Ljava/lang/Object;)I" } : Jvm.MethodName) jdk_44_method_6_code (2 : Nat) (Option.some Jvm.ClassFile.FieldType.int)).before args0 about1 = true := code_word (m := ⟨22, 2⟩) (meth := k22m2) (c := k22c2) (by decide +kernel) rfl rfl rfl (by decide +kernel)
set_option maxRecDepth 65536 in
theorem w_c21 : (Jvm.Cond.code ({ cls := "java/util/ImmutableCollections$List12", name := "<init>", desc := "(Ljava/lang/Object;)V" } : Jvm.MethodName) jdk_44_method_1_code (2 : Nat) (Option.none : Option Jvm.ClassFile.FieldType)).before args0 about1 = true := code_word (m := ⟨22, 0⟩) (meth := k22m0) (c := k22c0) (by decide +kernel) rfl rfl rfl (by decide +kernel)
def codes1 : List Jvm.Cond := [Jvm.Cond.code x code maxLocals ret, Jvm.Cond.code ({ cls := "com/example/grantline/grantline/engine/ActionsImpliedMaskPinLaw", name := "names", desc := "(I)[Ljava/lang/String;" } : Jvm.MethodName) method_2_code (1 : Nat) (Option.some (Jvm.ClassFile.FieldType.array (Jvm.ClassFile.FieldType.object "java/lang/String"))), Jvm.Cond.code ({ cls := "com/example/grantline/grantline/engine/Actions", name := "<init>", desc := "([Ljava/lang/String;)V" } : Jvm.MethodName) prog_18_method_1_code (3 : Nat) (Option.none : Option Jvm.ClassFile.FieldType), Jvm.Cond.code ({ cls := "java/util/List", name := "of", desc := "([Ljava/lang/Object;)Ljava/util/List;" } : Jvm.MethodName) jdk_40_method_47_code (2 : Nat) (Option.some (Jvm.ClassFile.FieldType.object "java/util/List")), Jvm.Cond.code ({ cls := "java/util/ImmutableCollections", name := "listFromArray", desc := "([Ljava/lang/Object;)Ljava/util/List;" } : Jvm.MethodName) jdk_56_method_4_code (3 : Nat) (Option.some (Jvm.ClassFile.FieldType.object "java/util/List")), Jvm.Cond.code ({ cls := "java/util/Objects", name := "requireNonNull", desc := "(Ljava/lang/Object;)Ljava/lang/Object;" } : Jvm.MethodName) jdk_31_method_10_code (1 : Nat) (Option.some (Jvm.ClassFile.FieldType.object "java/lang/Object")), Jvm.Cond.code ({ cls := "java/util/ImmutableCollections$ListN", name := "<init>", desc := "([Ljava/lang/Object;Z)V" } : Jvm.MethodName) jdk_45_method_1_code (3 : Nat) (Option.none : Option Jvm.ClassFile.FieldType), Jvm.Cond.code ({ cls := "java/util/ImmutableCollections$AbstractImmutableList", name := "<init>", desc := "()V" } : Jvm.MethodName) jdk_46_method_1_code (1 : Nat) (Option.none : Option Jvm.ClassFile.FieldType), Jvm.Cond.code ({ cls := "java/util/ImmutableCollections$AbstractImmutableCollection", name := "<init>", desc := "()V" } : Jvm.MethodName) jdk_47_method_1_code (1 : Nat) (Option.none : Option Jvm.ClassFile.FieldType), Jvm.Cond.code ({ cls := "java/util/AbstractCollection", name := "<init>", desc := "()V" } : Jvm.MethodName) jdk_22_method_1_code (1 : Nat) (Option.none : Option Jvm.ClassFile.FieldType), Jvm.Cond.code ({ cls := "java/lang/Object", name := "<init>", desc := "()V" } : Jvm.MethodName) object_method_1_code (1 : Nat) (Option.none : Option Jvm.ClassFile.FieldType), Jvm.Cond.code ({ cls := "com/example/grantline/grantline/engine/Actions", name := "<init>", desc := "(Ljava/util/List;[I)V" } : Jvm.MethodName) prog_18_method_2_code (3 : Nat) (Option.none : Option Jvm.ClassFile.FieldType), Jvm.Cond.code ({ cls := "com/example/grantline/grantline/engine/Actions", name := "impliedMask", desc := "(I)I" } : Jvm.MethodName) prog_18_method_5_code (4 : Nat) (Option.some Jvm.ClassFile.FieldType.int), Jvm.Cond.code ({ cls := "com/example/grantline/grantline/engine/Actions", name := "withImplied", desc := "(Ljava/lang/String;[Ljava/lang/String;)Lcom/example/grantline/grantline/engine/Actions;" } : Jvm.MethodName) prog_18_method_3_code (8 : Nat) (Option.some (Jvm.ClassFile.FieldType.object "com/example/grantline/grantline/engine/Actions")), Jvm.Cond.code ({ cls := "com/example/grantline/grantline/engine/Actions", name := "index", desc := "(Ljava/lang/String;)I" } : Jvm.MethodName) prog_18_method_6_code (3 : Nat) (Option.some Jvm.ClassFile.FieldType.int), Jvm.Cond.code ({ cls := "java/util/ImmutableCollections$ListN", name := "indexOf", desc := "(Ljava/lang/Object;)I" } : Jvm.MethodName) jdk_45_method_9_code (4 : Nat) (Option.some Jvm.ClassFile.FieldType.int), Jvm.Cond.code ({ cls := "java/util/Objects", name := "equals", desc := "(Ljava/lang/Object;Ljava/lang/Object;)Z" } : Jvm.MethodName) jdk_31_method_2_code (2 : Nat) (Option.some Jvm.ClassFile.FieldType.boolean), Jvm.Cond.code ({ cls := "java/lang/String", name := "equals", desc := "(Ljava/lang/Object;)Z" } : Jvm.MethodName) jdk_42_method_66_code (3 : Nat) (Option.some Jvm.ClassFile.FieldType.boolean), Jvm.Cond.code ({ cls := "java/lang/StringLatin1", name := "equals", desc := "([B[B)Z" } : Jvm.MethodName) jdk_43_method_13_code (3 : Nat) (Option.some Jvm.ClassFile.FieldType.boolean), Jvm.Cond.code ({ cls := "java/util/ImmutableCollections$List12", name := "<init>", desc := "(Ljava/lang/Object;Ljava/lang/Object;)V" } : Jvm.MethodName) jdk_44_method_2_code (3 : Nat) (Option.none : Option Jvm.ClassFile.FieldType), Jvm.Cond.code ({ cls := "java/util/ImmutableCollections$List12", name := "indexOf", desc := "(Ljava/lang/Object;)I" } : Jvm.MethodName) jdk_44_method_6_code (2 : Nat) (Option.some Jvm.ClassFile.FieldType.int), Jvm.Cond.code ({ cls := "java/util/ImmutableCollections$List12", name := "<init>", desc := "(Ljava/lang/Object;)V" } : Jvm.MethodName) jdk_44_method_1_code (2 : Nat) (Option.none : Option Jvm.ClassFile.FieldType)]
set_option maxRecDepth 65536 in
theorem codes_eq : words1.filter isCode = codes1 := rfl
theorem w_codes : ∀ c ∈ words1.filter isCode, c.before args0 about1 = true := by
  rw [codes_eq]
  intro c hc
  simp only [codes1, List.mem_cons, List.not_mem_nil, or_false] at hc
  rcases hc with rfl | rfl | rfl | rfl | rfl | rfl | rfl | rfl | rfl | rfl | rfl | rfl | rfl | rfl | rfl | rfl | rfl | rfl | rfl | rfl | rfl | rfl
  · exact w_c0
  · exact w_c1
  · exact w_c2
  · exact w_c3
  · exact w_c4
  · exact w_c5
  · exact w_c6
  · exact w_c7
  · exact w_c8
  · exact w_c9
  · exact w_c10
  · exact w_c11
  · exact w_c12
  · exact w_c13
  · exact w_c14
  · exact w_c15
  · exact w_c16
  · exact w_c17
  · exact w_c18
  · exact w_c19
  · exact w_c20
  · exact w_c21
set_option maxRecDepth 65536 in
theorem w_t1 : (words1.take 24).all (fun c => isCode c || c.before args0 about1) = true := by decide +kernel
set_option maxRecDepth 65536 in
theorem w_t2 : ((words1.drop 24).take 24).all (fun c => isCode c || c.before args0 about1) = true := by decide +kernel
set_option maxRecDepth 65536 in
theorem w_t3 : (((words1.drop 24).drop 24).take 24).all (fun c => isCode c || c.before args0 about1) = true := by decide +kernel
set_option maxRecDepth 65536 in
theorem w_t4 : ((((words1.drop 24).drop 24).drop 24).take 24).all (fun c => isCode c || c.before args0 about1) = true := by decide +kernel
set_option maxRecDepth 65536 in
theorem w_t5 : (((((words1.drop 24).drop 24).drop 24).drop 24).take 24).all (fun c => isCode c || c.before args0 about1) = true := by decide +kernel
set_option maxRecDepth 65536 in
theorem w_t6 : ((((((words1.drop 24).drop 24).drop 24).drop 24).drop 24).take 24).all (fun c => isCode c || c.before args0 about1) = true := by decide +kernel
set_option maxRecDepth 65536 in
theorem w_t7 : ((((((words1.drop 24).drop 24).drop 24).drop 24).drop 24).drop 24).all (fun c => isCode c || c.before args0 about1) = true := by decide +kernel
theorem w_tables : (allAtoms (Jvm.Cond.code x code maxLocals ret :: tables_1)).before args0 about1 = true := by
  rw [allAtoms_all]
  show words1.all (fun c => c.before args0 about1) = true
  refine all_split ?_ w_codes
  rw [← List.take_append_drop 24 words1, List.all_append, w_t1, ← List.take_append_drop 24 (words1.drop 24), List.all_append, w_t2, ← List.take_append_drop 24 ((words1.drop 24).drop 24), List.all_append, w_t3, ← List.take_append_drop 24 (((words1.drop 24).drop 24).drop 24), List.all_append, w_t4, ← List.take_append_drop 24 ((((words1.drop 24).drop 24).drop 24).drop 24), List.all_append, w_t5, ← List.take_append_drop 24 (((((words1.drop 24).drop 24).drop 24).drop 24).drop 24), List.all_append, w_t6, w_t7]
  rfl
set_option maxRecDepth 65536 in
theorem w_rest : rest_1_c.before args0 about1 = true := by decide +kernel
set_option maxRecDepth 65536 in
theorem w_case : (Jvm.Cond.and given_1 narrow_1).before args0 about1 = true := by decide +kernel
set_option maxRecDepth 65536 in
theorem w_consts : constsHeld consts_1 about1 := Jvm.Lit.constsHeldB_iff.mp (by decide +kernel)
theorem w_applies : (headSpec (Jvm.Cond.code x code maxLocals ret :: tables_1) room_1).applies x e0.platform about1 = true :=
  (Spec.applies_iff w_frames).mpr ⟨w_running, w_runnable, w_alone, w_named, w_hears, w_ripe, w_room, w_tables⟩
theorem atStart : AtStart classFile x code maxLocals ret World_1 tables_1 room_1 Calls_1 rest_1 Pre_1 launch0 p0 e0 about1 theMethod args0 below0 :=
  ⟨lists_1, trivial, launch0.admits_env _ _ _, launch0.least_env, fairChoices_fair.cas, fairChoices_fair.clock, w_frames, w_args, w_heap, w_applies, ⟨w_consts, trivial⟩, w_rest, w_case⟩
end start1
theorem witness_1 : WitnessClaimed_1 := ⟨start1.p0, start1.e0, start1.about1, start1.theMethod, start1.args0, start1.below0, start1.atStart⟩
end Jvm.Pilot.@@N@@
