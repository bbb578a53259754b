import JvmDerived
import JvmDerived.Pilot.@@N@@Statement
import JvmDerived.Pilot.@@N@@Code
set_option linter.unusedVariables false
set_option linter.unusedSimpArgs false
@@BLOCK:NumsL.lean.txt@@
namespace Jvm.RoadKit
open Sem ClassFile Op Lib Jvm.Stand Jvm.Free Jvm.LawKit
section New
variable {p : Program} {l : Launch} {e : Env} {R : Room} {s : State} {m : MethodId} {args : Array Value} {below : List Frame} {meth : Method} {c : Code} {T : State} {locs : List Loc} {cells slots : Nat}
theorem retI (X : Stand p l e R s m args below meth c T locs cells slots) (hx : p.tables.exec = Jvm.exec) {pc : Nat} {Ls : Array Slot} {z : Int32} {rest : List Value} (hret : meth.sig.returnType = some .int) (hd : decode c.code pc = .ok (.ireturn, 1)) {fs : List Frame}
    (hl : ∀ (f : JFrame) (acts : List Action), f.method = m → f.locked = none → f.entered = [] → (doReturn e (T.setTop f) acts (some (.int z))).1 = T.setFrames fs) : Steps p.tables e below (T.setTop (mkF m pc Ls (.int z :: rest))) (T.setFrames fs) := by
  have hm' : T.vm.method? m = some meth := X.method'
  have hn : narrow .int (.int z) = .int z := rfl
  show Steps p.tables e below (T.setTop { method := m, pc := pc, locals := Ls, stack := _ :: rest, locked := none }) _
  jvm_step X.here [X.here.top, hx, hd, hm', hret, hn]
  first | (intro acts; rw [hl _ acts rfl rfl rfl]) | rw [hl _ _ rfl rfl rfl]
  exact Steps.refl _
/-- the run from U comes to an end of which Q speaks -/
def Gl (tb : Tables) (e : Env) (below : List Frame) (Q : State → Outcome → Prop) (U : State) : Prop := ∃ s₂ o, Steps tb e below U s₂ ∧ s₂.status = .running ∧ Ended s₂ below o ∧ Q s₂ o
theorem Gl.out {tb : Tables} {Q : State → Outcome → Prop} {U : State} (h : Gl tb e below Q U) : ∃ s₂ o, Steps tb e below U s₂ ∧ s₂.status = .running ∧ Ended s₂ below o ∧ Q s₂ o := h
theorem Gl.mk {tb : Tables} {Q : State → Outcome → Prop} {U : State} (h : ∃ s₂ o, Steps tb e below U s₂ ∧ s₂.status = .running ∧ Ended s₂ below o ∧ Q s₂ o) : Gl tb e below Q U := h
theorem Gl.go {tb : Tables} {Q : State → Outcome → Prop} {U V : State} (g : Gl tb e below Q V) (st : ∀ t, Steps tb e below V t → Steps tb e below U t) : Gl tb e below Q U := by
  obtain ⟨s₂, o, h1, h2⟩ := g
  exact ⟨s₂, o, st _ h1, h2⟩
theorem Gl.tr {tb : Tables} {Q : State → Outcome → Prop} {U V : State} (g : Gl tb e below Q V) (st : Steps tb e below U V) : Gl tb e below Q U := g.go fun _ k => st.trans k
/-- what a body leaves that writes and makes nothing: it returns w, the heap as it was -/
def PQ (w : Option Value) (h0 : Heap) (v : Option Value) (h : Heap) (L : List Loc) : Prop := v = w ∧ L = [] ∧ h = h0
/-- an array of ints or bytes: its length N and what it holds at j -/
def BA (Z : State) (h : Heap) (a : Addr) (ty : FieldType) (N : Int32) (f : Int32 → Int32) : Prop := ∃ cl : Cell, Arr Z h a cl ty ∧ cl.slots.size = N.toNatClampNeg ∧ ¬ N < 0 ∧ ∀ j : Int32, ¬ j < 0 → j < N → cl.slots[j.toNatClampNeg]? = some (.int (f j))
theorem BA.rdB {Z : State} {h : Heap} {a : Addr} {N j : Int32} {f : Int32 → Int32} (B : BA Z h a .byte N f) (X : Stand p l e R s m args below meth c T locs cells slots) (hx : p.tables.exec = Jvm.exec) (hZ : Z.Warmed39 s.vm) (eT : T.heap = h) (h1 : ¬ j < 0) (h2 : j < N) {g : JFrame} (hg : g.method = m) {rest : List Value} (hs : g.stack = .int j :: .ref a :: rest) (hd : decode c.code g.pc = .ok (.baload, 1)) :
    ∀ target, Steps p.tables e below (T.setTop { g with pc := g.pc + 1, stack := .int (f j) :: rest }) target → Steps p.tables e below (T.setTop g) target := by
  obtain ⟨cl, A, S, N0, H⟩ := B
  intro target k
  exact X.baloadBytes hx (j := j) (v := .int (f j)) (by rw [eT]; exact A.1) (State.isArrayOf_alike hZ.alike A.2.1) A.2.2 (inb_of S ⟨h1, h2⟩) (H j h1 h2) (g := g) hg hs hd _ k
theorem BA.rdI {Z : State} {h : Heap} {a : Addr} {N j : Int32} {f : Int32 → Int32} (B : BA Z h a .int N f) (X : Stand p l e R s m args below meth c T locs cells slots) (hx : p.tables.exec = Jvm.exec) (hZ : Z.Warmed39 s.vm) (eT : T.heap = h) (h1 : ¬ j < 0) (h2 : j < N) {g : JFrame} (hg : g.method = m) {rest : List Value} (hs : g.stack = .int j :: .ref a :: rest) (hd : decode c.code g.pc = .ok (.iaload, 1)) :
    ∀ target, Steps p.tables e below (T.setTop { g with pc := g.pc + 1, stack := .int (f j) :: rest }) target → Steps p.tables e below (T.setTop g) target := by
  obtain ⟨cl, A, S, N0, H⟩ := B
  intro target k
  exact X.iaload hx (j := j) (v := .int (f j)) (by rw [eT]; exact A.1) (State.isArrayOf_alike hZ.alike A.2.1) A.2.2 (inb_of S ⟨h1, h2⟩) (H j h1 h2) (g := g) hg hs hd _ k
theorem BA.len {Z : State} {h : Heap} {a : Addr} {N : Int32} {ty : FieldType} {f : Int32 → Int32} (B : BA Z h a ty N f) (X : Stand p l e R s m args below meth c T locs cells slots) (hx : p.tables.exec = Jvm.exec) (hZ : Z.Warmed39 s.vm) (eT : T.heap = h) {g : JFrame} (hg : g.method = m) {rest : List Value} (hs : g.stack = .ref a :: rest) (hd : decode c.code g.pc = .ok (.arraylength, 1)) :
    ∀ target, Steps p.tables e below (T.setTop { g with pc := g.pc + 1, stack := .int N :: rest }) target → Steps p.tables e below (T.setTop g) target := by
  obtain ⟨cl, A, S, N0, H⟩ := B
  intro target k
  refine X.arraylength hx (by rw [eT]; exact A.1) (State.isArrayOf_alike hZ.alike A.2.1) (g := g) hg hs hd _ ?_
  rw [len_of S N0]
  exact k
theorem Arv.rdR {Z : State} {h : Heap} {a : Addr} {k : ClassId} {N j : Int32} {ty : FieldType} {vs : List Value} {d v : Value} (V : Arv Z h a k ty N vs d) (hty : ty.isReference = true) (X : Stand p l e R s m args below meth c T locs cells slots) (hx : p.tables.exec = Jvm.exec) (hZ : Z.Warmed39 s.vm) (eT : T.heap = h) (h1 : ¬ j < 0) (h2 : j < N) (hv : vs.getD j.toNatClampNeg d = v) {g : JFrame} (hg : g.method = m) {rest : List Value} (hs : g.stack = .int j :: .ref a :: rest) (hd : decode c.code g.pc = .ok (.aaload, 1)) :
    ∀ target, Steps p.tables e below (T.setTop { g with pc := g.pc + 1, stack := v :: rest }) target → Steps p.tables e below (T.setTop g) target := by
  obtain ⟨cl, A, -, S, N0, H, -⟩ := V
  intro target k
  exact X.aaload hx (j := j) (v := v) (by rw [eT]; exact A.1) (State.isArrayOf_alike hZ.alike A.2.1) hty A.2.2 (inb_of S ⟨h1, h2⟩) (H.at (inb_of S ⟨h1, h2⟩) hv) (g := g) hg hs hd _ k
theorem BA.ext {Z : State} {h h' : Heap} {a : Addr} {N : Int32} {ty : FieldType} {f : Int32 → Int32} (B : BA Z h a ty N f) (E : Ext h h') : BA Z h' a ty N f := by
  obtain ⟨cl, A, r⟩ := B; exact ⟨cl, A.ext E, r⟩
theorem BA.other {Z : State} {h h' : Heap} {a b : Addr} {N : Int32} {ty : FieldType} {f : Int32 → Int32} {sl : Nat} {v : Value} (B : BA Z h b ty N f) (W : Wr h h' a sl v) (q : b ≠ a) : BA Z h' b ty N f := by
  obtain ⟨cl, A, r⟩ := B; exact ⟨cl, A.other W q, r⟩
theorem BA.lt {Z : State} {h : Heap} {a : Addr} {N : Int32} {ty : FieldType} {f : Int32 → Int32} (B : BA Z h a ty N f) : a < h.size := by
  obtain ⟨cl, A, r⟩ := B; exact A.lt
/-- the list of an array's values, read as a function -/
def nth (xs : List Int32) (j : Int32) : Int32 := xs.getD j.toNatClampNeg 0
theorem BA.of {Z : State} {h : Heap} {a : Addr} {k : ClassId} {N : Int32} {ty : FieldType} {d : Value} (xs : List Int32) (V : Arv Z h a k ty N (xs.map Value.int) d) (hl : N.toNatClampNeg ≤ xs.length) : BA Z h a ty N (nth xs) := by
  obtain ⟨cl, A, -, S, N0, H, -⟩ := V
  refine ⟨cl, A, S, N0, fun j h1 h2 => ?_⟩
  have h3 : j.toNatClampNeg < N.toNatClampNeg := by
    rw [Int32.lt_iff_toInt_lt] at h1 h2
    have e0 : (0 : Int32).toInt = 0 := rfl
    simp only [Int32.toNatClampNeg]; omega
  rw [H _ (by omega)]
  have h4 : j.toNatClampNeg < xs.length := by omega
  simp [nth, List.getD_eq_getElem?_getD, h4]
end New
end Jvm.RoadKit
namespace Jvm.Pilot.@@N@@
open Jvm Jvm.ClassFile Sem Op Lib Jvm.Free Jvm.Stand Jvm.LawKit Jvm.RoadKit Bundle Jvm.Pilot.@@N@@.Jvm.D
theorem own_eqv {args : Array Value} {first s : State} {o : Option Outcome} {idx : List Nat} {a b : Term} {y : Value} (h : (Cond.eq a b).value args first o s idx = some true) (hb : b.eval args first o idx s = some y) (hy : y.isRef = true ∨ ∃ z, y = .int z) : a.eval args first o idx s = some y := by
  cases ha : a.eval args first o idx s with
  | none => simp [Cond.value, ha] at h
  | some x => rcases hy with hy | ⟨z, rfl⟩ <;> cases x <;> (try cases y) <;> simp_all [Cond.value, Value.isRef]
theorem own_ref {v : Value} (h : v.isRef = true) : v = .null ∨ ∃ a, v = .ref a := ref_cases h
theorem own_nr (a : Addr) : ¬ (Value.ref a) = .null := nofun
theorem iv_lt {x a : Int32} {k : Int} (hk : a.toInt = k) (h : x < a) : x.toInt < k := hk ▸ Int32.lt_iff_toInt_lt.mp h
theorem iv_nlt {x a : Int32} {k : Int} (hk : a.toInt = k) (h : ¬ x < a) : k ≤ x.toInt := by rw [Int32.lt_iff_toInt_lt, hk] at h; omega
theorem iv_gt {x a : Int32} {k : Int} (hk : a.toInt = k) (h : a < x) : k < x.toInt := hk ▸ Int32.lt_iff_toInt_lt.mp h
theorem iv_ngt {x a : Int32} {k : Int} (hk : a.toInt = k) (h : ¬ a < x) : x.toInt ≤ k := by rw [Int32.lt_iff_toInt_lt, hk] at h; omega
theorem iv_eq {x a : Int32} {k : Int} (hk : a.toInt = k) (h : x = a) : x.toInt = k := h ▸ hk
theorem iv_ne {x a : Int32} {k : Int} (hk : a.toInt = k) (h : ¬ x = a) : x.toInt ≠ k := fun q => h (Int32.toInt_inj.mp (q.trans hk.symm))
theorem iv_lt' {x a : Int32} {k : Int} (hk : a.toInt = k) (h : x.toInt < k) : x < a := Int32.lt_iff_toInt_lt.mpr (hk ▸ h)
theorem iv_nlt' {x a : Int32} {k : Int} (hk : a.toInt = k) (h : k ≤ x.toInt) : ¬ x < a := by rw [Int32.lt_iff_toInt_lt, hk]; omega
theorem iv_gt' {x a : Int32} {k : Int} (hk : a.toInt = k) (h : k < x.toInt) : a < x := Int32.lt_iff_toInt_lt.mpr (hk ▸ h)
theorem iv_ngt' {x a : Int32} {k : Int} (hk : a.toInt = k) (h : x.toInt ≤ k) : ¬ a < x := by rw [Int32.lt_iff_toInt_lt, hk]; omega
theorem iv_eq' {x a : Int32} {k : Int} (hk : a.toInt = k) (h : x.toInt = k) : x = a := Int32.toInt_inj.mp (h.trans hk.symm)
theorem iv_neq' {x a : Int32} {k : Int} (hk : a.toInt = k) (h : x.toInt ≠ k) : ¬ x = a := fun q => h (q ▸ hk)
theorem own_succ {x : Int32} (h : x.toInt < 2147483647) : (x + 1).toInt = x.toInt + 1 := by
  have a := x.le_toInt
  exact Jvm.Kit.i32_add (by show -2 ^ 31 ≤ x.toInt + 1; omega) (by show x.toInt + 1 < 2 ^ 31; omega)
theorem own_len {u v : Int32} (h0 : 0 ≤ u.toInt) (h : u.toInt ≤ v.toInt) : u.toInt + ((v.toInt - u.toInt).toNat : Int) = v.toInt ∨ ((v.toInt - u.toInt).toNat = 0 ∧ ¬ u < v) := by
  left; omega
theorem own_nat {x : Int32} (h : 0 ≤ x.toInt) : x = Int32.ofNat x.toInt.toNat := by
  apply Int32.toInt_inj.mp
  have h2 := x.toInt_lt
  rw [Int32.toInt_ofNat_of_lt (by omega)]
  omega
theorem own_rem (x b : Int32) (hb : 0 < b.toInt) (k : Nat) (hk : b.toInt = k) : ∃ n : Nat, n < k ∧ (x &&& (2147483647 : Int32)) % b = Int32.ofNat n := by
  have h0 : (x &&& (2147483647 : Int32)).toInt = x.toInt % 2 ^ 31 := Jvm.Kit.i32_mask x 2147483647 (k := 31) (by decide) (by decide)
  have h3 : 0 ≤ (x &&& (2147483647 : Int32)).toInt := by omega
  have e : ((x &&& (2147483647 : Int32)) % b).toInt = (x &&& (2147483647 : Int32)).toInt % b.toInt := by
    rw [Int32.toInt_mod, Int.tmod_eq_emod_of_nonneg h3]
  have h1 : 0 ≤ ((x &&& (2147483647 : Int32)) % b).toInt := by rw [e]; exact Int.emod_nonneg _ (by omega)
  have h2 : ((x &&& (2147483647 : Int32)) % b).toInt < b.toInt := by rw [e]; exact Int.emod_lt_of_pos _ hb
  exact ⟨_, by omega, own_nat h1⟩
theorem own_in {k en : Int32} (h0 : 0 ≤ k.toInt) (hE : en.toInt ≤ 6) (h : k < en) : ¬ k < 0 ∧ k < 6 := by
  rw [Int32.lt_iff_toInt_lt] at h
  exact ⟨iv_nlt' (k := 0) rfl h0, iv_lt' (k := 6) rfl (by omega)⟩
theorem own_add {x : Int32} {b : Int32} {c : Int} (hc : b.toInt = c) (h1 : -100 ≤ x.toInt) (h2 : x.toInt ≤ 1000) (h3 : -100 ≤ c) (h4 : c ≤ 100) : (x + b).toInt = x.toInt + c := by
  rw [← hc]; exact Jvm.Kit.i32_add (by omega) (by omega)
theorem own_addn {x : Int32} {b : Int32} {c : Int} (hc : b.toInt = c) (h1 : 0 ≤ x.toInt) (h2 : x.toInt ≤ 1000) (h3 : 0 ≤ c) (h4 : c ≤ 100) : 0 ≤ (x + b).toInt := by
  rw [own_add hc (by omega) h2 (by omega) h4]; omega
theorem own_sub1 {r fr : Int32} (h0 : 0 ≤ fr.toInt) (h : fr < r) : (r - 1).toInt = r.toInt - 1 := by
  rw [Int32.lt_iff_toInt_lt] at h
  have := r.toInt_lt
  exact Jvm.Kit.i32_sub (by show -2 ^ 31 ≤ r.toInt - 1; omega) (by show r.toInt - 1 < 2 ^ 31; omega)
theorem own_cl {r fr : Int32} (h0 : 0 ≤ fr.toInt) (hr : r.toInt ≤ 6) (h : fr < r) : ¬ (r - 1) < 0 ∧ (r - 1) < 6 := by
  have e := own_sub1 h0 h
  rw [Int32.lt_iff_toInt_lt] at h
  exact ⟨iv_nlt' (k := 0) rfl (by omega), iv_lt' (k := 6) rfl (by omega)⟩
theorem d1_0 : decode method_3_code 0 = .ok (.iload_n 0, 1) := by decide +kernel
theorem d1_1 : decode method_3_code 1 = .ok (.iconst 3, 1) := by decide +kernel
theorem d1_2 : decode method_3_code 2 = .ok (.iload_n 3, 1) := by decide +kernel
theorem d1_3 : decode method_3_code 3 = .ok (.imul, 1) := by decide +kernel
theorem d1_4 : decode method_3_code 4 = .ok (.iushr, 1) := by decide +kernel
theorem d1_5 : decode method_3_code 5 = .ok (.bipush 7, 2) := by decide +kernel
theorem d1_7 : decode method_3_code 7 = .ok (.iand, 1) := by decide +kernel
theorem d1_8 : decode method_3_code 8 = .ok (.istore 4, 2) := by decide +kernel
theorem d1_10 : decode method_3_code 10 = .ok (.iload 4, 2) := by decide +kernel
theorem d1_12 : decode method_3_code 12 = .ok (.ifCond .ne 6, 3) := by decide +kernel
theorem d1_15 : decode method_3_code 15 = .ok (.bipush 60, 2) := by decide +kernel
theorem d1_17 : decode method_3_code 17 = .ok (.ireturn, 1) := by decide +kernel
theorem d1_18 : decode method_3_code 18 = .ok (.iload 4, 2) := by decide +kernel
theorem d1_20 : decode method_3_code 20 = .ok (.iconst 1, 1) := by decide +kernel
theorem d1_21 : decode method_3_code 21 = .ok (.if_icmp .ne 6, 3) := by decide +kernel
theorem d1_24 : decode method_3_code 24 = .ok (.bipush 33, 2) := by decide +kernel
theorem d1_26 : decode method_3_code 26 = .ok (.ireturn, 1) := by decide +kernel
theorem d1_27 : decode method_3_code 27 = .ok (.iload 4, 2) := by decide +kernel
theorem d1_29 : decode method_3_code 29 = .ok (.iconst 2, 1) := by decide +kernel
theorem d1_30 : decode method_3_code 30 = .ok (.if_icmp .ne 6, 3) := by decide +kernel
theorem d1_33 : decode method_3_code 33 = .ok (.bipush 63, 2) := by decide +kernel
theorem d1_35 : decode method_3_code 35 = .ok (.ireturn, 1) := by decide +kernel
theorem d1_36 : decode method_3_code 36 = .ok (.iload 4, 2) := by decide +kernel
theorem d1_38 : decode method_3_code 38 = .ok (.iconst 3, 1) := by decide +kernel
theorem d1_39 : decode method_3_code 39 = .ok (.if_icmp .ne 6, 3) := by decide +kernel
theorem d1_42 : decode method_3_code 42 = .ok (.bipush 93, 2) := by decide +kernel
theorem d1_44 : decode method_3_code 44 = .ok (.ireturn, 1) := by decide +kernel
theorem d1_45 : decode method_3_code 45 = .ok (.lload_n 1, 1) := by decide +kernel
theorem d1_46 : decode method_3_code 46 = .ok (.bipush 8, 2) := by decide +kernel
theorem d1_48 : decode method_3_code 48 = .ok (.iload_n 3, 1) := by decide +kernel
theorem d1_49 : decode method_3_code 49 = .ok (.imul, 1) := by decide +kernel
theorem d1_50 : decode method_3_code 50 = .ok (.lushr, 1) := by decide +kernel
theorem d1_51 : decode method_3_code 51 = .ok (.l2i, 1) := by decide +kernel
theorem d1_52 : decode method_3_code 52 = .ok (.i2b, 1) := by decide +kernel
theorem d1_53 : decode method_3_code 53 = .ok (.ireturn, 1) := by decide +kernel
theorem pn_1 : plainName "com/example/facet/facet/xml/MarkupScannerPlainUntilPinLaw" = true := by first | (simp [plainName, overriddenIn]; done) | decide +kernel
def f_pick (sel : Int32) (raw : Int64) (n3 : Int32) : Int32 := (if (((sel.toUInt32 >>> (((3 : Int32) * n3) &&& 31).toUInt32).toInt32) &&& (7 : Int32)) = (0 : Int32) then (60 : Int32) else (if (((sel.toUInt32 >>> (((3 : Int32) * n3) &&& 31).toUInt32).toInt32) &&& (7 : Int32)) = (1 : Int32) then (33 : Int32) else (if (((sel.toUInt32 >>> (((3 : Int32) * n3) &&& 31).toUInt32).toInt32) &&& (7 : Int32)) = (2 : Int32) then (63 : Int32) else (if (((sel.toUInt32 >>> (((3 : Int32) * n3) &&& 31).toUInt32).toInt32) &&& (7 : Int32)) = (3 : Int32) then (93 : Int32) else (nar .byte ((((raw.toUInt64 >>> (((8 : Int32) * n3) &&& 0x3f).toInt64.toUInt64).toInt64).toInt32).toInt8.toInt32))))))
theorem ef_rm1 (m : MethodId) (x0 : Int32) (x1 : Int64) (x2 : Int32) : entryFrame m #[(.int x0), (.long x1), (.int x2)] 5 = mkF m 0 #[.val (.int x0), .val (.long x1), .second, .val (.int x2), .unset] [] := by first | (simp [entryFrame, mkF, argsToLocals, Value.category]; done) | rfl
set_option maxRecDepth 65536 in
set_option maxHeartbeats 40000000 in
theorem rm1 (l : Launch) (Z : State) (a0 : Array Value) (hw : ∀ d ∈ tables_1, d.before a0 Z = true) (ws : List Jvm.Cond) (sel : Int32) (raw : Int64) (n3 : Int32)  (h0 : Heap)  :
    MetFree l (⟨"com/example/facet/facet/xml/MarkupScannerPlainUntilPinLaw", "pick", "(IJI)B"⟩ : MethodName) (head1 (Jvm.Cond.code (⟨"com/example/facet/facet/xml/MarkupScannerPlainUntilPinLaw", "pick", "(IJI)B"⟩ : MethodName) method_3_code 5 (some .byte) :: ws) ({ frames := 0, cells := 0, slots := 0, locals := 0 } : Room)) (fun aQ U => aQ = #[(.int sel), (.long raw), (.int n3)] ∧ Z.Warmed39 U.vm ∧ U.heap = h0) (fun _ _ _ _ _ => True) (fun _ U o U' => ∃ vQ LQ, o = .returned vQ ∧ PQ (some (.int (f_pick sel raw n3))) h0 vQ U'.heap LQ ∧ FrameEnd U o U' LQ ({ frames := 0, cells := 0, slots := 0, locals := 0 } : Room).cells ({ frames := 0, cells := 0, slots := 0, locals := 0 } : Room).slots) := by
  refine MetFree.of_bodySF (plainFor_of_name pn_1) hisR ?_
  intro p e s m args below meth c s₁ Bd hml0 hP hK
  obtain ⟨rfl, hZ, hh⟩ := hP
  have hx := Bd.exec
  have hby := Bd.bytes
  have hml : c.maxLocals = 5 := hml0
  have hown : s.vm.findClass "com/example/facet/facet/xml/MarkupScannerPlainUntilPinLaw" = some m.cls := findClass_of_methodNamed Bd.named
  have hnm := (name_of_methodNamed Bd.named Bd.method).1
  have X0 : Stand p l e ({ frames := 0, cells := 0, slots := 0, locals := 0 } : Room) s m #[(.int sel), (.long raw), (.int n3)] below meth c s₁ [] 0 0 := Stand.of_body Bd
  have e0 : s₁.heap = h0 := by rw [← hh, Bd.state]; rfl
  refine Gl.out ?_
  refine Gl.go ?_ (fun t k => castTop (ef_rm1 m sel raw n3) k)
  show Gl _ _ _ _ (s₁.setTop (mkF m 0 #[.val (.int sel), .val (.long raw), .second, .val (.int n3), .unset] []))
  refine Gl.go ?_ (fun t k => XS.iloadN X0.here hx rfl (hb hby d1_0) rfl k)
  show Gl _ _ _ _ (s₁.setTop (mkF m 1 #[.val (.int sel), .val (.long raw), .second, .val (.int n3), .unset] [(.int sel)]))
  refine Gl.go ?_ (fun t k => XS.iconst X0.here hx rfl (hb hby d1_1) k)
  show Gl _ _ _ _ (s₁.setTop (mkF m 2 #[.val (.int sel), .val (.long raw), .second, .val (.int n3), .unset] [(.int (3 : Int32)), (.int sel)]))
  refine Gl.go ?_ (fun t k => XS.iloadN X0.here hx rfl (hb hby d1_2) rfl k)
  show Gl _ _ _ _ (s₁.setTop (mkF m 3 #[.val (.int sel), .val (.long raw), .second, .val (.int n3), .unset] [(.int n3), (.int (3 : Int32)), (.int sel)]))
  refine Gl.go ?_ (fun t k => XS.imul X0.here hx rfl (hb hby d1_3) rfl k)
  show Gl _ _ _ _ (s₁.setTop (mkF m 4 #[.val (.int sel), .val (.long raw), .second, .val (.int n3), .unset] [(.int ((3 : Int32) * n3)), (.int sel)]))
  refine Gl.go ?_ (fun t k => XS.iushr X0.here hx rfl (hb hby d1_4) rfl k)
  show Gl _ _ _ _ (s₁.setTop (mkF m 5 #[.val (.int sel), .val (.long raw), .second, .val (.int n3), .unset] [(.int ((sel.toUInt32 >>> (((3 : Int32) * n3) &&& 31).toUInt32).toInt32))]))
  refine Gl.go ?_ (fun t k => XS.bipush X0.here hx rfl (hb hby d1_5) k)
  show Gl _ _ _ _ (s₁.setTop (mkF m 7 #[.val (.int sel), .val (.long raw), .second, .val (.int n3), .unset] [(.int (7 : Int32)), (.int ((sel.toUInt32 >>> (((3 : Int32) * n3) &&& 31).toUInt32).toInt32))]))
  refine Gl.go ?_ (fun t k => XS.iand X0.here hx rfl (hb hby d1_7) rfl k)
  show Gl _ _ _ _ (s₁.setTop (mkF m 8 #[.val (.int sel), .val (.long raw), .second, .val (.int n3), .unset] [(.int (((sel.toUInt32 >>> (((3 : Int32) * n3) &&& 31).toUInt32).toInt32) &&& (7 : Int32)))]))
  refine Gl.go ?_ (fun t k => XS.istore X0.here hx rfl (hb hby d1_8) rfl (l' := #[.val (.int sel), .val (.long raw), .second, .val (.int n3), .val (.int (((sel.toUInt32 >>> (((3 : Int32) * n3) &&& 31).toUInt32).toInt32) &&& (7 : Int32)))]) rfl k)
  show Gl _ _ _ _ (s₁.setTop (mkF m 10 #[.val (.int sel), .val (.long raw), .second, .val (.int n3), .val (.int (((sel.toUInt32 >>> (((3 : Int32) * n3) &&& 31).toUInt32).toInt32) &&& (7 : Int32)))] []))
  refine Gl.go ?_ (fun t k => XS.iload X0.here hx rfl (hb hby d1_10) rfl k)
  show Gl _ _ _ _ (s₁.setTop (mkF m 12 #[.val (.int sel), .val (.long raw), .second, .val (.int n3), .val (.int (((sel.toUInt32 >>> (((3 : Int32) * n3) &&& 31).toUInt32).toInt32) &&& (7 : Int32)))] [(.int (((sel.toUInt32 >>> (((3 : Int32) * n3) &&& 31).toUInt32).toInt32) &&& (7 : Int32)))]))
  by_cases hc1 : (((sel.toUInt32 >>> (((3 : Int32) * n3) &&& 31).toUInt32).toInt32) &&& (7 : Int32)) = (0 : Int32)
  · refine Gl.go ?_ (fun t k => XS.ifNo X0.here hx rfl (hb hby d1_12) rfl ((if0 _ _).trans (teq hc1).2) k)
    show Gl _ _ _ _ (s₁.setTop (mkF m 15 #[.val (.int sel), .val (.long raw), .second, .val (.int n3), .val (.int (((sel.toUInt32 >>> (((3 : Int32) * n3) &&& 31).toUInt32).toInt32) &&& (7 : Int32)))] []))
    refine Gl.go ?_ (fun t k => XS.bipush X0.here hx rfl (hb hby d1_15) k)
    show Gl _ _ _ _ (s₁.setTop (mkF m 17 #[.val (.int sel), .val (.long raw), .second, .val (.int n3), .val (.int (((sel.toUInt32 >>> (((3 : Int32) * n3) &&& 31).toUInt32).toInt32) &&& (7 : Int32)))] [(.int (60 : Int32))]))
    obtain ⟨fs, hr, hrun, hended, hW, hsame⟩ := X0.leave (v := some (.int (60 : Int32))) (fun h => by rw [Bd.returns] at h; cases h) (BodyLoose.notSynchronized Bd)
    exact Gl.mk ⟨_, _, retN X0 hx (t := .byte) Bd.returns (by simp) (hb hby d1_17) hr, hrun, hended, _, _, rfl, ⟨congrArg (fun z => some (Value.int z)) ((if_pos hc1).trans (rfl)).symm, rfl, e0⟩, ⟨_, rfl⟩, hW, hsame.mono (by decide) (by decide)⟩
  · refine Gl.go ?_ (fun t k => XS.ifYes X0.here hx rfl (pc0 := 12) (pc' := 18) rfl (hb hby d1_12) rfl ((if0 _ _).trans (feq hc1).2) (by decide) (by decide) k)
    show Gl _ _ _ _ (s₁.setTop (mkF m 18 #[.val (.int sel), .val (.long raw), .second, .val (.int n3), .val (.int (((sel.toUInt32 >>> (((3 : Int32) * n3) &&& 31).toUInt32).toInt32) &&& (7 : Int32)))] []))
    refine Gl.go ?_ (fun t k => XS.iload X0.here hx rfl (hb hby d1_18) rfl k)
    show Gl _ _ _ _ (s₁.setTop (mkF m 20 #[.val (.int sel), .val (.long raw), .second, .val (.int n3), .val (.int (((sel.toUInt32 >>> (((3 : Int32) * n3) &&& 31).toUInt32).toInt32) &&& (7 : Int32)))] [(.int (((sel.toUInt32 >>> (((3 : Int32) * n3) &&& 31).toUInt32).toInt32) &&& (7 : Int32)))]))
    refine Gl.go ?_ (fun t k => XS.iconst X0.here hx rfl (hb hby d1_20) k)
    show Gl _ _ _ _ (s₁.setTop (mkF m 21 #[.val (.int sel), .val (.long raw), .second, .val (.int n3), .val (.int (((sel.toUInt32 >>> (((3 : Int32) * n3) &&& 31).toUInt32).toInt32) &&& (7 : Int32)))] [(.int (1 : Int32)), (.int (((sel.toUInt32 >>> (((3 : Int32) * n3) &&& 31).toUInt32).toInt32) &&& (7 : Int32)))]))
    by_cases hc2 : (((sel.toUInt32 >>> (((3 : Int32) * n3) &&& 31).toUInt32).toInt32) &&& (7 : Int32)) = (1 : Int32)
    · refine Gl.go ?_ (fun t k => XS.icmpNo X0.here hx rfl (hb hby d1_21) rfl (teq hc2).2 k)
      show Gl _ _ _ _ (s₁.setTop (mkF m 24 #[.val (.int sel), .val (.long raw), .second, .val (.int n3), .val (.int (((sel.toUInt32 >>> (((3 : Int32) * n3) &&& 31).toUInt32).toInt32) &&& (7 : Int32)))] []))
      refine Gl.go ?_ (fun t k => XS.bipush X0.here hx rfl (hb hby d1_24) k)
      show Gl _ _ _ _ (s₁.setTop (mkF m 26 #[.val (.int sel), .val (.long raw), .second, .val (.int n3), .val (.int (((sel.toUInt32 >>> (((3 : Int32) * n3) &&& 31).toUInt32).toInt32) &&& (7 : Int32)))] [(.int (33 : Int32))]))
      obtain ⟨fs, hr, hrun, hended, hW, hsame⟩ := X0.leave (v := some (.int (33 : Int32))) (fun h => by rw [Bd.returns] at h; cases h) (BodyLoose.notSynchronized Bd)
      exact Gl.mk ⟨_, _, retN X0 hx (t := .byte) Bd.returns (by simp) (hb hby d1_26) hr, hrun, hended, _, _, rfl, ⟨congrArg (fun z => some (Value.int z)) ((if_neg hc1).trans ((if_pos hc2).trans (rfl))).symm, rfl, e0⟩, ⟨_, rfl⟩, hW, hsame.mono (by decide) (by decide)⟩
    · refine Gl.go ?_ (fun t k => XS.icmpYes X0.here hx rfl (pc0 := 21) (pc' := 27) rfl (hb hby d1_21) rfl (feq hc2).2 (by decide) (by decide) k)
      show Gl _ _ _ _ (s₁.setTop (mkF m 27 #[.val (.int sel), .val (.long raw), .second, .val (.int n3), .val (.int (((sel.toUInt32 >>> (((3 : Int32) * n3) &&& 31).toUInt32).toInt32) &&& (7 : Int32)))] []))
      refine Gl.go ?_ (fun t k => XS.iload X0.here hx rfl (hb hby d1_27) rfl k)
      show Gl _ _ _ _ (s₁.setTop (mkF m 29 #[.val (.int sel), .val (.long raw), .second, .val (.int n3), .val (.int (((sel.toUInt32 >>> (((3 : Int32) * n3) &&& 31).toUInt32).toInt32) &&& (7 : Int32)))] [(.int (((sel.toUInt32 >>> (((3 : Int32) * n3) &&& 31).toUInt32).toInt32) &&& (7 : Int32)))]))
      refine Gl.go ?_ (fun t k => XS.iconst X0.here hx rfl (hb hby d1_29) k)
      show Gl _ _ _ _ (s₁.setTop (mkF m 30 #[.val (.int sel), .val (.long raw), .second, .val (.int n3), .val (.int (((sel.toUInt32 >>> (((3 : Int32) * n3) &&& 31).toUInt32).toInt32) &&& (7 : Int32)))] [(.int (2 : Int32)), (.int (((sel.toUInt32 >>> (((3 : Int32) * n3) &&& 31).toUInt32).toInt32) &&& (7 : Int32)))]))
      by_cases hc3 : (((sel.toUInt32 >>> (((3 : Int32) * n3) &&& 31).toUInt32).toInt32) &&& (7 : Int32)) = (2 : Int32)
      · refine Gl.go ?_ (fun t k => XS.icmpNo X0.here hx rfl (hb hby d1_30) rfl (teq hc3).2 k)
        show Gl _ _ _ _ (s₁.setTop (mkF m 33 #[.val (.int sel), .val (.long raw), .second, .val (.int n3), .val (.int (((sel.toUInt32 >>> (((3 : Int32) * n3) &&& 31).toUInt32).toInt32) &&& (7 : Int32)))] []))
        refine Gl.go ?_ (fun t k => XS.bipush X0.here hx rfl (hb hby d1_33) k)
        show Gl _ _ _ _ (s₁.setTop (mkF m 35 #[.val (.int sel), .val (.long raw), .second, .val (.int n3), .val (.int (((sel.toUInt32 >>> (((3 : Int32) * n3) &&& 31).toUInt32).toInt32) &&& (7 : Int32)))] [(.int (63 : Int32))]))
        obtain ⟨fs, hr, hrun, hended, hW, hsame⟩ := X0.leave (v := some (.int (63 : Int32))) (fun h => by rw [Bd.returns] at h; cases h) (BodyLoose.notSynchronized Bd)
        exact Gl.mk ⟨_, _, retN X0 hx (t := .byte) Bd.returns (by simp) (hb hby d1_35) hr, hrun, hended, _, _, rfl, ⟨congrArg (fun z => some (Value.int z)) ((if_neg hc1).trans ((if_neg hc2).trans ((if_pos hc3).trans (rfl)))).symm, rfl, e0⟩, ⟨_, rfl⟩, hW, hsame.mono (by decide) (by decide)⟩
      · refine Gl.go ?_ (fun t k => XS.icmpYes X0.here hx rfl (pc0 := 30) (pc' := 36) rfl (hb hby d1_30) rfl (feq hc3).2 (by decide) (by decide) k)
        show Gl _ _ _ _ (s₁.setTop (mkF m 36 #[.val (.int sel), .val (.long raw), .second, .val (.int n3), .val (.int (((sel.toUInt32 >>> (((3 : Int32) * n3) &&& 31).toUInt32).toInt32) &&& (7 : Int32)))] []))
        refine Gl.go ?_ (fun t k => XS.iload X0.here hx rfl (hb hby d1_36) rfl k)
        show Gl _ _ _ _ (s₁.setTop (mkF m 38 #[.val (.int sel), .val (.long raw), .second, .val (.int n3), .val (.int (((sel.toUInt32 >>> (((3 : Int32) * n3) &&& 31).toUInt32).toInt32) &&& (7 : Int32)))] [(.int (((sel.toUInt32 >>> (((3 : Int32) * n3) &&& 31).toUInt32).toInt32) &&& (7 : Int32)))]))
        refine Gl.go ?_ (fun t k => XS.iconst X0.here hx rfl (hb hby d1_38) k)
        show Gl _ _ _ _ (s₁.setTop (mkF m 39 #[.val (.int sel), .val (.long raw), .second, .val (.int n3), .val (.int (((sel.toUInt32 >>> (((3 : Int32) * n3) &&& 31).toUInt32).toInt32) &&& (7 : Int32)))] [(.int (3 : Int32)), (.int (((sel.toUInt32 >>> (((3 : Int32) * n3) &&& 31).toUInt32).toInt32) &&& (7 : Int32)))]))
        by_cases hc4 : (((sel.toUInt32 >>> (((3 : Int32) * n3) &&& 31).toUInt32).toInt32) &&& (7 : Int32)) = (3 : Int32)
        · refine Gl.go ?_ (fun t k => XS.icmpNo X0.here hx rfl (hb hby d1_39) rfl (teq hc4).2 k)
          show Gl _ _ _ _ (s₁.setTop (mkF m 42 #[.val (.int sel), .val (.long raw), .second, .val (.int n3), .val (.int (((sel.toUInt32 >>> (((3 : Int32) * n3) &&& 31).toUInt32).toInt32) &&& (7 : Int32)))] []))
          refine Gl.go ?_ (fun t k => XS.bipush X0.here hx rfl (hb hby d1_42) k)
          show Gl _ _ _ _ (s₁.setTop (mkF m 44 #[.val (.int sel), .val (.long raw), .second, .val (.int n3), .val (.int (((sel.toUInt32 >>> (((3 : Int32) * n3) &&& 31).toUInt32).toInt32) &&& (7 : Int32)))] [(.int (93 : Int32))]))
          obtain ⟨fs, hr, hrun, hended, hW, hsame⟩ := X0.leave (v := some (.int (93 : Int32))) (fun h => by rw [Bd.returns] at h; cases h) (BodyLoose.notSynchronized Bd)
          exact Gl.mk ⟨_, _, retN X0 hx (t := .byte) Bd.returns (by simp) (hb hby d1_44) hr, hrun, hended, _, _, rfl, ⟨congrArg (fun z => some (Value.int z)) ((if_neg hc1).trans ((if_neg hc2).trans ((if_neg hc3).trans ((if_pos hc4).trans (rfl))))).symm, rfl, e0⟩, ⟨_, rfl⟩, hW, hsame.mono (by decide) (by decide)⟩
        · refine Gl.go ?_ (fun t k => XS.icmpYes X0.here hx rfl (pc0 := 39) (pc' := 45) rfl (hb hby d1_39) rfl (feq hc4).2 (by decide) (by decide) k)
          show Gl _ _ _ _ (s₁.setTop (mkF m 45 #[.val (.int sel), .val (.long raw), .second, .val (.int n3), .val (.int (((sel.toUInt32 >>> (((3 : Int32) * n3) &&& 31).toUInt32).toInt32) &&& (7 : Int32)))] []))
          refine Gl.go ?_ (fun t k => XS.lloadN X0.here hx rfl (hb hby d1_45) rfl k)
          show Gl _ _ _ _ (s₁.setTop (mkF m 46 #[.val (.int sel), .val (.long raw), .second, .val (.int n3), .val (.int (((sel.toUInt32 >>> (((3 : Int32) * n3) &&& 31).toUInt32).toInt32) &&& (7 : Int32)))] [(.long raw)]))
          refine Gl.go ?_ (fun t k => XS.bipush X0.here hx rfl (hb hby d1_46) k)
          show Gl _ _ _ _ (s₁.setTop (mkF m 48 #[.val (.int sel), .val (.long raw), .second, .val (.int n3), .val (.int (((sel.toUInt32 >>> (((3 : Int32) * n3) &&& 31).toUInt32).toInt32) &&& (7 : Int32)))] [(.int (8 : Int32)), (.long raw)]))
          refine Gl.go ?_ (fun t k => XS.iloadN X0.here hx rfl (hb hby d1_48) rfl k)
          show Gl _ _ _ _ (s₁.setTop (mkF m 49 #[.val (.int sel), .val (.long raw), .second, .val (.int n3), .val (.int (((sel.toUInt32 >>> (((3 : Int32) * n3) &&& 31).toUInt32).toInt32) &&& (7 : Int32)))] [(.int n3), (.int (8 : Int32)), (.long raw)]))
          refine Gl.go ?_ (fun t k => XS.imul X0.here hx rfl (hb hby d1_49) rfl k)
          show Gl _ _ _ _ (s₁.setTop (mkF m 50 #[.val (.int sel), .val (.long raw), .second, .val (.int n3), .val (.int (((sel.toUInt32 >>> (((3 : Int32) * n3) &&& 31).toUInt32).toInt32) &&& (7 : Int32)))] [(.int ((8 : Int32) * n3)), (.long raw)]))
          refine Gl.go ?_ (fun t k => XS.lushr X0.here hx rfl (hb hby d1_50) rfl k)
          show Gl _ _ _ _ (s₁.setTop (mkF m 51 #[.val (.int sel), .val (.long raw), .second, .val (.int n3), .val (.int (((sel.toUInt32 >>> (((3 : Int32) * n3) &&& 31).toUInt32).toInt32) &&& (7 : Int32)))] [(.long ((raw.toUInt64 >>> (((8 : Int32) * n3) &&& 0x3f).toInt64.toUInt64).toInt64))]))
          refine Gl.go ?_ (fun t k => XS.l2i X0.here hx rfl (hb hby d1_51) rfl k)
          show Gl _ _ _ _ (s₁.setTop (mkF m 52 #[.val (.int sel), .val (.long raw), .second, .val (.int n3), .val (.int (((sel.toUInt32 >>> (((3 : Int32) * n3) &&& 31).toUInt32).toInt32) &&& (7 : Int32)))] [(.int (((raw.toUInt64 >>> (((8 : Int32) * n3) &&& 0x3f).toInt64.toUInt64).toInt64).toInt32))]))
          refine Gl.go ?_ (fun t k => XS.i2b X0.here hx rfl (hb hby d1_52) rfl k)
          show Gl _ _ _ _ (s₁.setTop (mkF m 53 #[.val (.int sel), .val (.long raw), .second, .val (.int n3), .val (.int (((sel.toUInt32 >>> (((3 : Int32) * n3) &&& 31).toUInt32).toInt32) &&& (7 : Int32)))] [(.int ((((raw.toUInt64 >>> (((8 : Int32) * n3) &&& 0x3f).toInt64.toUInt64).toInt64).toInt32).toInt8.toInt32))]))
          obtain ⟨fs, hr, hrun, hended, hW, hsame⟩ := X0.leave (v := some (.int (nar .byte ((((raw.toUInt64 >>> (((8 : Int32) * n3) &&& 0x3f).toInt64.toUInt64).toInt64).toInt32).toInt8.toInt32)))) (fun h => by rw [Bd.returns] at h; cases h) (BodyLoose.notSynchronized Bd)
          exact Gl.mk ⟨_, _, retN X0 hx (t := .byte) Bd.returns (by simp) (hb hby d1_53) hr, hrun, hended, _, _, rfl, ⟨congrArg (fun z => some (Value.int z)) ((if_neg hc1).trans ((if_neg hc2).trans ((if_neg hc3).trans ((if_neg hc4).trans (rfl))))).symm, rfl, e0⟩, ⟨_, rfl⟩, hW, hsame.mono (by decide) (by decide)⟩
theorem d4_0 : decode method_4_code 0 = .ok (.iload_n 1, 1) := by decide +kernel
theorem d4_1 : decode method_4_code 1 = .ok (.iload_n 2, 1) := by decide +kernel
theorem d4_2 : decode method_4_code 2 = .ok (.if_icmp .ge 15, 3) := by decide +kernel
theorem d4_5 : decode method_4_code 5 = .ok (.aload_n 0, 1) := by decide +kernel
theorem d4_6 : decode method_4_code 6 = .ok (.iload_n 1, 1) := by decide +kernel
theorem d4_7 : decode method_4_code 7 = .ok (.baload, 1) := by decide +kernel
theorem d4_8 : decode method_4_code 8 = .ok (.bipush 60, 2) := by decide +kernel
theorem d4_10 : decode method_4_code 10 = .ok (.if_icmp .ne 7, 3) := by decide +kernel
theorem d4_13 : decode method_4_code 13 = .ok (.iconst 1, 1) := by decide +kernel
theorem d4_14 : decode method_4_code 14 = .ok (.goto 4, 3) := by decide +kernel
theorem d4_17 : decode method_4_code 17 = .ok (.iconst 0, 1) := by decide +kernel
theorem d4_18 : decode method_4_code 18 = .ok (.ireturn, 1) := by decide +kernel
theorem pn_4 : plainName "com/example/facet/facet/xml/MarkupScannerPlainUntilPinLaw" = true := by first | (simp [plainName, overriddenIn]; done) | decide +kernel
def f_lt (ik en : Int32) (B : Int32 → Int32) : Int32 := (if ik < en then (if (B ik) = (60 : Int32) then (1 : Int32) else (0 : Int32)) else (0 : Int32))
theorem ef_rm4 (m : MethodId) (x0 : Addr) (x1 : Int32) (x2 : Int32) : entryFrame m #[(.ref x0), (.int x1), (.int x2)] 3 = mkF m 0 #[.val (.ref x0), .val (.int x1), .val (.int x2)] [] := by first | (simp [entryFrame, mkF, argsToLocals, Value.category]; done) | rfl
set_option maxRecDepth 65536 in
set_option maxHeartbeats 40000000 in
theorem rm4 (l : Launch) (Z : State) (a0 : Array Value) (hw : ∀ d ∈ tables_1, d.before a0 Z = true) (ws : List Jvm.Cond) (a : Addr) (ik : Int32) (en : Int32) (B : Int32 → Int32) (h0 : Heap) (hB : BA Z h0 a .byte (6 : Int32) B) (hk : 0 ≤ ik.toInt) (hE : en.toInt ≤ 6) :
    MetFree l (⟨"com/example/facet/facet/xml/MarkupScannerPlainUntilPinLaw", "lt", "([BII)Z"⟩ : MethodName) (head1 (Jvm.Cond.code (⟨"com/example/facet/facet/xml/MarkupScannerPlainUntilPinLaw", "lt", "([BII)Z"⟩ : MethodName) method_4_code 3 (some .boolean) :: ws) ({ frames := 0, cells := 0, slots := 0, locals := 0 } : Room)) (fun aQ U => aQ = #[(.ref a), (.int ik), (.int en)] ∧ Z.Warmed39 U.vm ∧ U.heap = h0) (fun _ _ _ _ _ => True) (fun _ U o U' => ∃ vQ LQ, o = .returned vQ ∧ PQ (some (.int (f_lt ik en B))) h0 vQ U'.heap LQ ∧ FrameEnd U o U' LQ ({ frames := 0, cells := 0, slots := 0, locals := 0 } : Room).cells ({ frames := 0, cells := 0, slots := 0, locals := 0 } : Room).slots) := by
  refine MetFree.of_bodySF (plainFor_of_name pn_4) hisR ?_
  intro p e s m args below meth c s₁ Bd hml0 hP hK
  obtain ⟨rfl, hZ, hh⟩ := hP
  have hx := Bd.exec
  have hby := Bd.bytes
  have hml : c.maxLocals = 3 := hml0
  have hown : s.vm.findClass "com/example/facet/facet/xml/MarkupScannerPlainUntilPinLaw" = some m.cls := findClass_of_methodNamed Bd.named
  have hnm := (name_of_methodNamed Bd.named Bd.method).1
  have X0 : Stand p l e ({ frames := 0, cells := 0, slots := 0, locals := 0 } : Room) s m #[(.ref a), (.int ik), (.int en)] below meth c s₁ [] 0 0 := Stand.of_body Bd
  have e0 : s₁.heap = h0 := by rw [← hh, Bd.state]; rfl
  refine Gl.out ?_
  refine Gl.go ?_ (fun t k => castTop (ef_rm4 m a ik en) k)
  show Gl _ _ _ _ (s₁.setTop (mkF m 0 #[.val (.ref a), .val (.int ik), .val (.int en)] []))
  refine Gl.go ?_ (fun t k => XS.iloadN X0.here hx rfl (hb hby d4_0) rfl k)
  show Gl _ _ _ _ (s₁.setTop (mkF m 1 #[.val (.ref a), .val (.int ik), .val (.int en)] [(.int ik)]))
  refine Gl.go ?_ (fun t k => XS.iloadN X0.here hx rfl (hb hby d4_1) rfl k)
  show Gl _ _ _ _ (s₁.setTop (mkF m 2 #[.val (.ref a), .val (.int ik), .val (.int en)] [(.int en), (.int ik)]))
  by_cases hc5 : ik < en
  · refine Gl.go ?_ (fun t k => XS.icmpNo X0.here hx rfl (hb hby d4_2) rfl (tlt hc5).2.1 k)
    show Gl _ _ _ _ (s₁.setTop (mkF m 5 #[.val (.ref a), .val (.int ik), .val (.int en)] []))
    refine Gl.go ?_ (fun t k => XS.aloadN X0.here hx rfl (hb hby d4_5) rfl rfl k)
    show Gl _ _ _ _ (s₁.setTop (mkF m 6 #[.val (.ref a), .val (.int ik), .val (.int en)] [(.ref a)]))
    refine Gl.go ?_ (fun t k => XS.iloadN X0.here hx rfl (hb hby d4_6) rfl k)
    show Gl _ _ _ _ (s₁.setTop (mkF m 7 #[.val (.ref a), .val (.int ik), .val (.int en)] [(.int ik), (.ref a)]))
    refine Gl.go ?_ (BA.rdB hB X0 hx hZ e0 (own_in hk hE hc5).1 (own_in hk hE hc5).2 (g := (mkF m 7 #[.val (.ref a), .val (.int ik), .val (.int en)] [(.int ik), (.ref a)])) rfl rfl (hb hby d4_7))
    show Gl _ _ _ _ (s₁.setTop (mkF m 8 #[.val (.ref a), .val (.int ik), .val (.int en)] [(.int (B ik))]))
    refine Gl.go ?_ (fun t k => XS.bipush X0.here hx rfl (hb hby d4_8) k)
    show Gl _ _ _ _ (s₁.setTop (mkF m 10 #[.val (.ref a), .val (.int ik), .val (.int en)] [(.int (60 : Int32)), (.int (B ik))]))
    by_cases hc6 : (B ik) = (60 : Int32)
    · refine Gl.go ?_ (fun t k => XS.icmpNo X0.here hx rfl (hb hby d4_10) rfl (teq hc6).2 k)
      show Gl _ _ _ _ (s₁.setTop (mkF m 13 #[.val (.ref a), .val (.int ik), .val (.int en)] []))
      refine Gl.go ?_ (fun t k => XS.iconst X0.here hx rfl (hb hby d4_13) k)
      show Gl _ _ _ _ (s₁.setTop (mkF m 14 #[.val (.ref a), .val (.int ik), .val (.int en)] [(.int (1 : Int32))]))
      refine Gl.go ?_ (fun t k => XS.goto X0.here hx rfl (pc0 := 14) (pc' := 18) rfl (hb hby d4_14) (by decide) (by decide) k)
      show Gl _ _ _ _ (s₁.setTop (mkF m 18 #[.val (.ref a), .val (.int ik), .val (.int en)] [(.int (1 : Int32))]))
      obtain ⟨fs, hr, hrun, hended, hW, hsame⟩ := X0.leave (v := some (.int (1 : Int32))) (fun h => by rw [Bd.returns] at h; cases h) (BodyLoose.notSynchronized Bd)
      exact Gl.mk ⟨_, _, retN X0 hx (t := .boolean) Bd.returns (by simp) (hb hby d4_18) hr, hrun, hended, _, _, rfl, ⟨congrArg (fun z => some (Value.int z)) ((if_pos hc5).trans ((if_pos hc6).trans (rfl))).symm, rfl, e0⟩, ⟨_, rfl⟩, hW, hsame.mono (by decide) (by decide)⟩
    · refine Gl.go ?_ (fun t k => XS.icmpYes X0.here hx rfl (pc0 := 10) (pc' := 17) rfl (hb hby d4_10) rfl (feq hc6).2 (by decide) (by decide) k)
      show Gl _ _ _ _ (s₁.setTop (mkF m 17 #[.val (.ref a), .val (.int ik), .val (.int en)] []))
      refine Gl.go ?_ (fun t k => XS.iconst X0.here hx rfl (hb hby d4_17) k)
      show Gl _ _ _ _ (s₁.setTop (mkF m 18 #[.val (.ref a), .val (.int ik), .val (.int en)] [(.int (0 : Int32))]))
      obtain ⟨fs, hr, hrun, hended, hW, hsame⟩ := X0.leave (v := some (.int (0 : Int32))) (fun h => by rw [Bd.returns] at h; cases h) (BodyLoose.notSynchronized Bd)
      exact Gl.mk ⟨_, _, retN X0 hx (t := .boolean) Bd.returns (by simp) (hb hby d4_18) hr, hrun, hended, _, _, rfl, ⟨congrArg (fun z => some (Value.int z)) ((if_pos hc5).trans ((if_neg hc6).trans (rfl))).symm, rfl, e0⟩, ⟨_, rfl⟩, hW, hsame.mono (by decide) (by decide)⟩
  · refine Gl.go ?_ (fun t k => XS.icmpYes X0.here hx rfl (pc0 := 2) (pc' := 17) rfl (hb hby d4_2) rfl (flt hc5).2.1 (by decide) (by decide) k)
    show Gl _ _ _ _ (s₁.setTop (mkF m 17 #[.val (.ref a), .val (.int ik), .val (.int en)] []))
    refine Gl.go ?_ (fun t k => XS.iconst X0.here hx rfl (hb hby d4_17) k)
    show Gl _ _ _ _ (s₁.setTop (mkF m 18 #[.val (.ref a), .val (.int ik), .val (.int en)] [(.int (0 : Int32))]))
    obtain ⟨fs, hr, hrun, hended, hW, hsame⟩ := X0.leave (v := some (.int (0 : Int32))) (fun h => by rw [Bd.returns] at h; cases h) (BodyLoose.notSynchronized Bd)
    exact Gl.mk ⟨_, _, retN X0 hx (t := .boolean) Bd.returns (by simp) (hb hby d4_18) hr, hrun, hended, _, _, rfl, ⟨congrArg (fun z => some (Value.int z)) ((if_neg hc5).trans (rfl)).symm, rfl, e0⟩, ⟨_, rfl⟩, hW, hsame.mono (by decide) (by decide)⟩
theorem d8_0 : decode method_6_code 0 = .ok (.iload_n 1, 1) := by decide +kernel
theorem d8_1 : decode method_6_code 1 = .ok (.iconst 1, 1) := by decide +kernel
theorem d8_2 : decode method_6_code 2 = .ok (.iadd, 1) := by decide +kernel
theorem d8_3 : decode method_6_code 3 = .ok (.iload_n 2, 1) := by decide +kernel
theorem d8_4 : decode method_6_code 4 = .ok (.if_icmp .ge 23, 3) := by decide +kernel
theorem d8_7 : decode method_6_code 7 = .ok (.aload_n 0, 1) := by decide +kernel
theorem d8_8 : decode method_6_code 8 = .ok (.iload_n 1, 1) := by decide +kernel
theorem d8_9 : decode method_6_code 9 = .ok (.iconst 1, 1) := by decide +kernel
theorem d8_10 : decode method_6_code 10 = .ok (.iadd, 1) := by decide +kernel
theorem d8_11 : decode method_6_code 11 = .ok (.baload, 1) := by decide +kernel
theorem d8_12 : decode method_6_code 12 = .ok (.bipush 33, 2) := by decide +kernel
theorem d8_14 : decode method_6_code 14 = .ok (.if_icmp .eq 13, 3) := by decide +kernel
theorem d8_17 : decode method_6_code 17 = .ok (.aload_n 0, 1) := by decide +kernel
theorem d8_18 : decode method_6_code 18 = .ok (.iload_n 1, 1) := by decide +kernel
theorem d8_19 : decode method_6_code 19 = .ok (.iconst 1, 1) := by decide +kernel
theorem d8_20 : decode method_6_code 20 = .ok (.iadd, 1) := by decide +kernel
theorem d8_21 : decode method_6_code 21 = .ok (.baload, 1) := by decide +kernel
theorem d8_22 : decode method_6_code 22 = .ok (.bipush 63, 2) := by decide +kernel
theorem d8_24 : decode method_6_code 24 = .ok (.if_icmp .ne 7, 3) := by decide +kernel
theorem d8_27 : decode method_6_code 27 = .ok (.iconst 1, 1) := by decide +kernel
theorem d8_28 : decode method_6_code 28 = .ok (.goto 4, 3) := by decide +kernel
theorem d8_31 : decode method_6_code 31 = .ok (.iconst 0, 1) := by decide +kernel
theorem d8_32 : decode method_6_code 32 = .ok (.ireturn, 1) := by decide +kernel
theorem pn_8 : plainName "com/example/facet/facet/xml/MarkupScannerPlainUntilPinLaw" = true := by first | (simp [plainName, overriddenIn]; done) | decide +kernel
def f_stops (ik en : Int32) (B : Int32 → Int32) : Int32 := (if (ik + (1 : Int32)) < en then (if (B (ik + (1 : Int32))) = (33 : Int32) then (1 : Int32) else (if (B (ik + (1 : Int32))) = (63 : Int32) then (1 : Int32) else (0 : Int32))) else (1 : Int32))
theorem ef_rm8 (m : MethodId) (x0 : Addr) (x1 : Int32) (x2 : Int32) : entryFrame m #[(.ref x0), (.int x1), (.int x2)] 3 = mkF m 0 #[.val (.ref x0), .val (.int x1), .val (.int x2)] [] := by first | (simp [entryFrame, mkF, argsToLocals, Value.category]; done) | rfl
set_option maxRecDepth 65536 in
set_option maxHeartbeats 40000000 in
theorem rm8 (l : Launch) (Z : State) (a0 : Array Value) (hw : ∀ d ∈ tables_1, d.before a0 Z = true) (ws : List Jvm.Cond) (a : Addr) (ik : Int32) (en : Int32) (B : Int32 → Int32) (h0 : Heap) (hB : BA Z h0 a .byte (6 : Int32) B) (hk : 0 ≤ (ik + (1 : Int32)).toInt) (hE : en.toInt ≤ 6) :
    MetFree l (⟨"com/example/facet/facet/xml/MarkupScannerPlainUntilPinLaw", "stops", "([BII)Z"⟩ : MethodName) (head1 (Jvm.Cond.code (⟨"com/example/facet/facet/xml/MarkupScannerPlainUntilPinLaw", "stops", "([BII)Z"⟩ : MethodName) method_6_code 3 (some .boolean) :: ws) ({ frames := 0, cells := 0, slots := 0, locals := 0 } : Room)) (fun aQ U => aQ = #[(.ref a), (.int ik), (.int en)] ∧ Z.Warmed39 U.vm ∧ U.heap = h0) (fun _ _ _ _ _ => True) (fun _ U o U' => ∃ vQ LQ, o = .returned vQ ∧ PQ (some (.int (f_stops ik en B))) h0 vQ U'.heap LQ ∧ FrameEnd U o U' LQ ({ frames := 0, cells := 0, slots := 0, locals := 0 } : Room).cells ({ frames := 0, cells := 0, slots := 0, locals := 0 } : Room).slots) := by
  refine MetFree.of_bodySF (plainFor_of_name pn_8) hisR ?_
  intro p e s m args below meth c s₁ Bd hml0 hP hK
  obtain ⟨rfl, hZ, hh⟩ := hP
  have hx := Bd.exec
  have hby := Bd.bytes
  have hml : c.maxLocals = 3 := hml0
  have hown : s.vm.findClass "com/example/facet/facet/xml/MarkupScannerPlainUntilPinLaw" = some m.cls := findClass_of_methodNamed Bd.named
  have hnm := (name_of_methodNamed Bd.named Bd.method).1
  have X0 : Stand p l e ({ frames := 0, cells := 0, slots := 0, locals := 0 } : Room) s m #[(.ref a), (.int ik), (.int en)] below meth c s₁ [] 0 0 := Stand.of_body Bd
  have e0 : s₁.heap = h0 := by rw [← hh, Bd.state]; rfl
  refine Gl.out ?_
  refine Gl.go ?_ (fun t k => castTop (ef_rm8 m a ik en) k)
  show Gl _ _ _ _ (s₁.setTop (mkF m 0 #[.val (.ref a), .val (.int ik), .val (.int en)] []))
  refine Gl.go ?_ (fun t k => XS.iloadN X0.here hx rfl (hb hby d8_0) rfl k)
  show Gl _ _ _ _ (s₁.setTop (mkF m 1 #[.val (.ref a), .val (.int ik), .val (.int en)] [(.int ik)]))
  refine Gl.go ?_ (fun t k => XS.iconst X0.here hx rfl (hb hby d8_1) k)
  show Gl _ _ _ _ (s₁.setTop (mkF m 2 #[.val (.ref a), .val (.int ik), .val (.int en)] [(.int (1 : Int32)), (.int ik)]))
  refine Gl.go ?_ (fun t k => XS.iadd X0.here hx rfl (hb hby d8_2) rfl k)
  show Gl _ _ _ _ (s₁.setTop (mkF m 3 #[.val (.ref a), .val (.int ik), .val (.int en)] [(.int (ik + (1 : Int32)))]))
  refine Gl.go ?_ (fun t k => XS.iloadN X0.here hx rfl (hb hby d8_3) rfl k)
  show Gl _ _ _ _ (s₁.setTop (mkF m 4 #[.val (.ref a), .val (.int ik), .val (.int en)] [(.int en), (.int (ik + (1 : Int32)))]))
  by_cases hc7 : (ik + (1 : Int32)) < en
  · refine Gl.go ?_ (fun t k => XS.icmpNo X0.here hx rfl (hb hby d8_4) rfl (tlt hc7).2.1 k)
    show Gl _ _ _ _ (s₁.setTop (mkF m 7 #[.val (.ref a), .val (.int ik), .val (.int en)] []))
    refine Gl.go ?_ (fun t k => XS.aloadN X0.here hx rfl (hb hby d8_7) rfl rfl k)
    show Gl _ _ _ _ (s₁.setTop (mkF m 8 #[.val (.ref a), .val (.int ik), .val (.int en)] [(.ref a)]))
    refine Gl.go ?_ (fun t k => XS.iloadN X0.here hx rfl (hb hby d8_8) rfl k)
    show Gl _ _ _ _ (s₁.setTop (mkF m 9 #[.val (.ref a), .val (.int ik), .val (.int en)] [(.int ik), (.ref a)]))
    refine Gl.go ?_ (fun t k => XS.iconst X0.here hx rfl (hb hby d8_9) k)
    show Gl _ _ _ _ (s₁.setTop (mkF m 10 #[.val (.ref a), .val (.int ik), .val (.int en)] [(.int (1 : Int32)), (.int ik), (.ref a)]))
    refine Gl.go ?_ (fun t k => XS.iadd X0.here hx rfl (hb hby d8_10) rfl k)
    show Gl _ _ _ _ (s₁.setTop (mkF m 11 #[.val (.ref a), .val (.int ik), .val (.int en)] [(.int (ik + (1 : Int32))), (.ref a)]))
    refine Gl.go ?_ (BA.rdB hB X0 hx hZ e0 (own_in hk hE hc7).1 (own_in hk hE hc7).2 (g := (mkF m 11 #[.val (.ref a), .val (.int ik), .val (.int en)] [(.int (ik + (1 : Int32))), (.ref a)])) rfl rfl (hb hby d8_11))
    show Gl _ _ _ _ (s₁.setTop (mkF m 12 #[.val (.ref a), .val (.int ik), .val (.int en)] [(.int (B (ik + (1 : Int32))))]))
    refine Gl.go ?_ (fun t k => XS.bipush X0.here hx rfl (hb hby d8_12) k)
    show Gl _ _ _ _ (s₁.setTop (mkF m 14 #[.val (.ref a), .val (.int ik), .val (.int en)] [(.int (33 : Int32)), (.int (B (ik + (1 : Int32))))]))
    by_cases hc8 : (B (ik + (1 : Int32))) = (33 : Int32)
    · refine Gl.go ?_ (fun t k => XS.icmpYes X0.here hx rfl (pc0 := 14) (pc' := 27) rfl (hb hby d8_14) rfl (teq hc8).1 (by decide) (by decide) k)
      show Gl _ _ _ _ (s₁.setTop (mkF m 27 #[.val (.ref a), .val (.int ik), .val (.int en)] []))
      refine Gl.go ?_ (fun t k => XS.iconst X0.here hx rfl (hb hby d8_27) k)
      show Gl _ _ _ _ (s₁.setTop (mkF m 28 #[.val (.ref a), .val (.int ik), .val (.int en)] [(.int (1 : Int32))]))
      refine Gl.go ?_ (fun t k => XS.goto X0.here hx rfl (pc0 := 28) (pc' := 32) rfl (hb hby d8_28) (by decide) (by decide) k)
      show Gl _ _ _ _ (s₁.setTop (mkF m 32 #[.val (.ref a), .val (.int ik), .val (.int en)] [(.int (1 : Int32))]))
      obtain ⟨fs, hr, hrun, hended, hW, hsame⟩ := X0.leave (v := some (.int (1 : Int32))) (fun h => by rw [Bd.returns] at h; cases h) (BodyLoose.notSynchronized Bd)
      exact Gl.mk ⟨_, _, retN X0 hx (t := .boolean) Bd.returns (by simp) (hb hby d8_32) hr, hrun, hended, _, _, rfl, ⟨congrArg (fun z => some (Value.int z)) ((if_pos hc7).trans ((if_pos hc8).trans (rfl))).symm, rfl, e0⟩, ⟨_, rfl⟩, hW, hsame.mono (by decide) (by decide)⟩
    · refine Gl.go ?_ (fun t k => XS.icmpNo X0.here hx rfl (hb hby d8_14) rfl (feq hc8).1 k)
      show Gl _ _ _ _ (s₁.setTop (mkF m 17 #[.val (.ref a), .val (.int ik), .val (.int en)] []))
      refine Gl.go ?_ (fun t k => XS.aloadN X0.here hx rfl (hb hby d8_17) rfl rfl k)
      show Gl _ _ _ _ (s₁.setTop (mkF m 18 #[.val (.ref a), .val (.int ik), .val (.int en)] [(.ref a)]))
      refine Gl.go ?_ (fun t k => XS.iloadN X0.here hx rfl (hb hby d8_18) rfl k)
      show Gl _ _ _ _ (s₁.setTop (mkF m 19 #[.val (.ref a), .val (.int ik), .val (.int en)] [(.int ik), (.ref a)]))
      refine Gl.go ?_ (fun t k => XS.iconst X0.here hx rfl (hb hby d8_19) k)
      show Gl _ _ _ _ (s₁.setTop (mkF m 20 #[.val (.ref a), .val (.int ik), .val (.int en)] [(.int (1 : Int32)), (.int ik), (.ref a)]))
      refine Gl.go ?_ (fun t k => XS.iadd X0.here hx rfl (hb hby d8_20) rfl k)
      show Gl _ _ _ _ (s₁.setTop (mkF m 21 #[.val (.ref a), .val (.int ik), .val (.int en)] [(.int (ik + (1 : Int32))), (.ref a)]))
      refine Gl.go ?_ (BA.rdB hB X0 hx hZ e0 (own_in hk hE hc7).1 (own_in hk hE hc7).2 (g := (mkF m 21 #[.val (.ref a), .val (.int ik), .val (.int en)] [(.int (ik + (1 : Int32))), (.ref a)])) rfl rfl (hb hby d8_21))
      show Gl _ _ _ _ (s₁.setTop (mkF m 22 #[.val (.ref a), .val (.int ik), .val (.int en)] [(.int (B (ik + (1 : Int32))))]))
      refine Gl.go ?_ (fun t k => XS.bipush X0.here hx rfl (hb hby d8_22) k)
      show Gl _ _ _ _ (s₁.setTop (mkF m 24 #[.val (.ref a), .val (.int ik), .val (.int en)] [(.int (63 : Int32)), (.int (B (ik + (1 : Int32))))]))
      by_cases hc9 : (B (ik + (1 : Int32))) = (63 : Int32)
      · refine Gl.go ?_ (fun t k => XS.icmpNo X0.here hx rfl (hb hby d8_24) rfl (teq hc9).2 k)
        show Gl _ _ _ _ (s₁.setTop (mkF m 27 #[.val (.ref a), .val (.int ik), .val (.int en)] []))
        refine Gl.go ?_ (fun t k => XS.iconst X0.here hx rfl (hb hby d8_27) k)
        show Gl _ _ _ _ (s₁.setTop (mkF m 28 #[.val (.ref a), .val (.int ik), .val (.int en)] [(.int (1 : Int32))]))
        refine Gl.go ?_ (fun t k => XS.goto X0.here hx rfl (pc0 := 28) (pc' := 32) rfl (hb hby d8_28) (by decide) (by decide) k)
        show Gl _ _ _ _ (s₁.setTop (mkF m 32 #[.val (.ref a), .val (.int ik), .val (.int en)] [(.int (1 : Int32))]))
        obtain ⟨fs, hr, hrun, hended, hW, hsame⟩ := X0.leave (v := some (.int (1 : Int32))) (fun h => by rw [Bd.returns] at h; cases h) (BodyLoose.notSynchronized Bd)
        exact Gl.mk ⟨_, _, retN X0 hx (t := .boolean) Bd.returns (by simp) (hb hby d8_32) hr, hrun, hended, _, _, rfl, ⟨congrArg (fun z => some (Value.int z)) ((if_pos hc7).trans ((if_neg hc8).trans ((if_pos hc9).trans (rfl)))).symm, rfl, e0⟩, ⟨_, rfl⟩, hW, hsame.mono (by decide) (by decide)⟩
      · refine Gl.go ?_ (fun t k => XS.icmpYes X0.here hx rfl (pc0 := 24) (pc' := 31) rfl (hb hby d8_24) rfl (feq hc9).2 (by decide) (by decide) k)
        show Gl _ _ _ _ (s₁.setTop (mkF m 31 #[.val (.ref a), .val (.int ik), .val (.int en)] []))
        refine Gl.go ?_ (fun t k => XS.iconst X0.here hx rfl (hb hby d8_31) k)
        show Gl _ _ _ _ (s₁.setTop (mkF m 32 #[.val (.ref a), .val (.int ik), .val (.int en)] [(.int (0 : Int32))]))
        obtain ⟨fs, hr, hrun, hended, hW, hsame⟩ := X0.leave (v := some (.int (0 : Int32))) (fun h => by rw [Bd.returns] at h; cases h) (BodyLoose.notSynchronized Bd)
        exact Gl.mk ⟨_, _, retN X0 hx (t := .boolean) Bd.returns (by simp) (hb hby d8_32) hr, hrun, hended, _, _, rfl, ⟨congrArg (fun z => some (Value.int z)) ((if_pos hc7).trans ((if_neg hc8).trans ((if_neg hc9).trans (rfl)))).symm, rfl, e0⟩, ⟨_, rfl⟩, hW, hsame.mono (by decide) (by decide)⟩
  · refine Gl.go ?_ (fun t k => XS.icmpYes X0.here hx rfl (pc0 := 4) (pc' := 27) rfl (hb hby d8_4) rfl (flt hc7).2.1 (by decide) (by decide) k)
    show Gl _ _ _ _ (s₁.setTop (mkF m 27 #[.val (.ref a), .val (.int ik), .val (.int en)] []))
    refine Gl.go ?_ (fun t k => XS.iconst X0.here hx rfl (hb hby d8_27) k)
    show Gl _ _ _ _ (s₁.setTop (mkF m 28 #[.val (.ref a), .val (.int ik), .val (.int en)] [(.int (1 : Int32))]))
    refine Gl.go ?_ (fun t k => XS.goto X0.here hx rfl (pc0 := 28) (pc' := 32) rfl (hb hby d8_28) (by decide) (by decide) k)
    show Gl _ _ _ _ (s₁.setTop (mkF m 32 #[.val (.ref a), .val (.int ik), .val (.int en)] [(.int (1 : Int32))]))
    obtain ⟨fs, hr, hrun, hended, hW, hsame⟩ := X0.leave (v := some (.int (1 : Int32))) (fun h => by rw [Bd.returns] at h; cases h) (BodyLoose.notSynchronized Bd)
    exact Gl.mk ⟨_, _, retN X0 hx (t := .boolean) Bd.returns (by simp) (hb hby d8_32) hr, hrun, hended, _, _, rfl, ⟨congrArg (fun z => some (Value.int z)) ((if_neg hc7).trans (rfl)).symm, rfl, e0⟩, ⟨_, rfl⟩, hW, hsame.mono (by decide) (by decide)⟩
theorem d6_0 : decode method_7_code 0 = .ok (.iload_n 1, 1) := by decide +kernel
theorem d6_1 : decode method_7_code 1 = .ok (.iload_n 2, 1) := by decide +kernel
theorem d6_2 : decode method_7_code 2 = .ok (.if_icmp .le 17, 3) := by decide +kernel
theorem d6_5 : decode method_7_code 5 = .ok (.aload_n 0, 1) := by decide +kernel
theorem d6_6 : decode method_7_code 6 = .ok (.iload_n 1, 1) := by decide +kernel
theorem d6_7 : decode method_7_code 7 = .ok (.iconst 1, 1) := by decide +kernel
theorem d6_8 : decode method_7_code 8 = .ok (.isub, 1) := by decide +kernel
theorem d6_9 : decode method_7_code 9 = .ok (.baload, 1) := by decide +kernel
theorem d6_10 : decode method_7_code 10 = .ok (.bipush 93, 2) := by decide +kernel
theorem d6_12 : decode method_7_code 12 = .ok (.if_icmp .ne 7, 3) := by decide +kernel
theorem d6_15 : decode method_7_code 15 = .ok (.iconst 1, 1) := by decide +kernel
theorem d6_16 : decode method_7_code 16 = .ok (.goto 4, 3) := by decide +kernel
theorem d6_19 : decode method_7_code 19 = .ok (.iconst 0, 1) := by decide +kernel
theorem d6_20 : decode method_7_code 20 = .ok (.ireturn, 1) := by decide +kernel
theorem pn_6 : plainName "com/example/facet/facet/xml/MarkupScannerPlainUntilPinLaw" = true := by first | (simp [plainName, overriddenIn]; done) | decide +kernel
def f_closes (rr fr : Int32) (B : Int32 → Int32) : Int32 := (if fr < rr then (if (B (rr - (1 : Int32))) = (93 : Int32) then (1 : Int32) else (0 : Int32)) else (0 : Int32))
theorem ef_rm6 (m : MethodId) (x0 : Addr) (x1 : Int32) (x2 : Int32) : entryFrame m #[(.ref x0), (.int x1), (.int x2)] 3 = mkF m 0 #[.val (.ref x0), .val (.int x1), .val (.int x2)] [] := by first | (simp [entryFrame, mkF, argsToLocals, Value.category]; done) | rfl
set_option maxRecDepth 65536 in
set_option maxHeartbeats 40000000 in
theorem rm6 (l : Launch) (Z : State) (a0 : Array Value) (hw : ∀ d ∈ tables_1, d.before a0 Z = true) (ws : List Jvm.Cond) (a : Addr) (rr : Int32) (fr : Int32) (B : Int32 → Int32) (h0 : Heap) (hB : BA Z h0 a .byte (6 : Int32) B) (hf : 0 ≤ fr.toInt) (hr : rr.toInt ≤ 6) :
    MetFree l (⟨"com/example/facet/facet/xml/MarkupScannerPlainUntilPinLaw", "closes", "([BII)Z"⟩ : MethodName) (head1 (Jvm.Cond.code (⟨"com/example/facet/facet/xml/MarkupScannerPlainUntilPinLaw", "closes", "([BII)Z"⟩ : MethodName) method_7_code 3 (some .boolean) :: ws) ({ frames := 0, cells := 0, slots := 0, locals := 0 } : Room)) (fun aQ U => aQ = #[(.ref a), (.int rr), (.int fr)] ∧ Z.Warmed39 U.vm ∧ U.heap = h0) (fun _ _ _ _ _ => True) (fun _ U o U' => ∃ vQ LQ, o = .returned vQ ∧ PQ (some (.int (f_closes rr fr B))) h0 vQ U'.heap LQ ∧ FrameEnd U o U' LQ ({ frames := 0, cells := 0, slots := 0, locals := 0 } : Room).cells ({ frames := 0, cells := 0, slots := 0, locals := 0 } : Room).slots) := by
  refine MetFree.of_bodySF (plainFor_of_name pn_6) hisR ?_
  intro p e s m args below meth c s₁ Bd hml0 hP hK
  obtain ⟨rfl, hZ, hh⟩ := hP
  have hx := Bd.exec
  have hby := Bd.bytes
  have hml : c.maxLocals = 3 := hml0
  have hown : s.vm.findClass "com/example/facet/facet/xml/MarkupScannerPlainUntilPinLaw" = some m.cls := findClass_of_methodNamed Bd.named
  have hnm := (name_of_methodNamed Bd.named Bd.method).1
  have X0 : Stand p l e ({ frames := 0, cells := 0, slots := 0, locals := 0 } : Room) s m #[(.ref a), (.int rr), (.int fr)] below meth c s₁ [] 0 0 := Stand.of_body Bd
  have e0 : s₁.heap = h0 := by rw [← hh, Bd.state]; rfl
  refine Gl.out ?_
  refine Gl.go ?_ (fun t k => castTop (ef_rm6 m a rr fr) k)
  show Gl _ _ _ _ (s₁.setTop (mkF m 0 #[.val (.ref a), .val (.int rr), .val (.int fr)] []))
  refine Gl.go ?_ (fun t k => XS.iloadN X0.here hx rfl (hb hby d6_0) rfl k)
  show Gl _ _ _ _ (s₁.setTop (mkF m 1 #[.val (.ref a), .val (.int rr), .val (.int fr)] [(.int rr)]))
  refine Gl.go ?_ (fun t k => XS.iloadN X0.here hx rfl (hb hby d6_1) rfl k)
  show Gl _ _ _ _ (s₁.setTop (mkF m 2 #[.val (.ref a), .val (.int rr), .val (.int fr)] [(.int fr), (.int rr)]))
  by_cases hc10 : fr < rr
  · refine Gl.go ?_ (fun t k => XS.icmpNo X0.here hx rfl (hb hby d6_2) rfl (tlt hc10).2.2.2 k)
    show Gl _ _ _ _ (s₁.setTop (mkF m 5 #[.val (.ref a), .val (.int rr), .val (.int fr)] []))
    refine Gl.go ?_ (fun t k => XS.aloadN X0.here hx rfl (hb hby d6_5) rfl rfl k)
    show Gl _ _ _ _ (s₁.setTop (mkF m 6 #[.val (.ref a), .val (.int rr), .val (.int fr)] [(.ref a)]))
    refine Gl.go ?_ (fun t k => XS.iloadN X0.here hx rfl (hb hby d6_6) rfl k)
    show Gl _ _ _ _ (s₁.setTop (mkF m 7 #[.val (.ref a), .val (.int rr), .val (.int fr)] [(.int rr), (.ref a)]))
    refine Gl.go ?_ (fun t k => XS.iconst X0.here hx rfl (hb hby d6_7) k)
    show Gl _ _ _ _ (s₁.setTop (mkF m 8 #[.val (.ref a), .val (.int rr), .val (.int fr)] [(.int (1 : Int32)), (.int rr), (.ref a)]))
    refine Gl.go ?_ (fun t k => XS.isub X0.here hx rfl (hb hby d6_8) rfl k)
    show Gl _ _ _ _ (s₁.setTop (mkF m 9 #[.val (.ref a), .val (.int rr), .val (.int fr)] [(.int (rr - (1 : Int32))), (.ref a)]))
    refine Gl.go ?_ (BA.rdB hB X0 hx hZ e0 (own_cl hf hr hc10).1 (own_cl hf hr hc10).2 (g := (mkF m 9 #[.val (.ref a), .val (.int rr), .val (.int fr)] [(.int (rr - (1 : Int32))), (.ref a)])) rfl rfl (hb hby d6_9))
    show Gl _ _ _ _ (s₁.setTop (mkF m 10 #[.val (.ref a), .val (.int rr), .val (.int fr)] [(.int (B (rr - (1 : Int32))))]))
    refine Gl.go ?_ (fun t k => XS.bipush X0.here hx rfl (hb hby d6_10) k)
    show Gl _ _ _ _ (s₁.setTop (mkF m 12 #[.val (.ref a), .val (.int rr), .val (.int fr)] [(.int (93 : Int32)), (.int (B (rr - (1 : Int32))))]))
    by_cases hc11 : (B (rr - (1 : Int32))) = (93 : Int32)
    · refine Gl.go ?_ (fun t k => XS.icmpNo X0.here hx rfl (hb hby d6_12) rfl (teq hc11).2 k)
      show Gl _ _ _ _ (s₁.setTop (mkF m 15 #[.val (.ref a), .val (.int rr), .val (.int fr)] []))
      refine Gl.go ?_ (fun t k => XS.iconst X0.here hx rfl (hb hby d6_15) k)
      show Gl _ _ _ _ (s₁.setTop (mkF m 16 #[.val (.ref a), .val (.int rr), .val (.int fr)] [(.int (1 : Int32))]))
      refine Gl.go ?_ (fun t k => XS.goto X0.here hx rfl (pc0 := 16) (pc' := 20) rfl (hb hby d6_16) (by decide) (by decide) k)
      show Gl _ _ _ _ (s₁.setTop (mkF m 20 #[.val (.ref a), .val (.int rr), .val (.int fr)] [(.int (1 : Int32))]))
      obtain ⟨fs, hr, hrun, hended, hW, hsame⟩ := X0.leave (v := some (.int (1 : Int32))) (fun h => by rw [Bd.returns] at h; cases h) (BodyLoose.notSynchronized Bd)
      exact Gl.mk ⟨_, _, retN X0 hx (t := .boolean) Bd.returns (by simp) (hb hby d6_20) hr, hrun, hended, _, _, rfl, ⟨congrArg (fun z => some (Value.int z)) ((if_pos hc10).trans ((if_pos hc11).trans (rfl))).symm, rfl, e0⟩, ⟨_, rfl⟩, hW, hsame.mono (by decide) (by decide)⟩
    · refine Gl.go ?_ (fun t k => XS.icmpYes X0.here hx rfl (pc0 := 12) (pc' := 19) rfl (hb hby d6_12) rfl (feq hc11).2 (by decide) (by decide) k)
      show Gl _ _ _ _ (s₁.setTop (mkF m 19 #[.val (.ref a), .val (.int rr), .val (.int fr)] []))
      refine Gl.go ?_ (fun t k => XS.iconst X0.here hx rfl (hb hby d6_19) k)
      show Gl _ _ _ _ (s₁.setTop (mkF m 20 #[.val (.ref a), .val (.int rr), .val (.int fr)] [(.int (0 : Int32))]))
      obtain ⟨fs, hr, hrun, hended, hW, hsame⟩ := X0.leave (v := some (.int (0 : Int32))) (fun h => by rw [Bd.returns] at h; cases h) (BodyLoose.notSynchronized Bd)
      exact Gl.mk ⟨_, _, retN X0 hx (t := .boolean) Bd.returns (by simp) (hb hby d6_20) hr, hrun, hended, _, _, rfl, ⟨congrArg (fun z => some (Value.int z)) ((if_pos hc10).trans ((if_neg hc11).trans (rfl))).symm, rfl, e0⟩, ⟨_, rfl⟩, hW, hsame.mono (by decide) (by decide)⟩
  · refine Gl.go ?_ (fun t k => XS.icmpYes X0.here hx rfl (pc0 := 2) (pc' := 19) rfl (hb hby d6_2) rfl (flt hc10).2.2.2 (by decide) (by decide) k)
    show Gl _ _ _ _ (s₁.setTop (mkF m 19 #[.val (.ref a), .val (.int rr), .val (.int fr)] []))
    refine Gl.go ?_ (fun t k => XS.iconst X0.here hx rfl (hb hby d6_19) k)
    show Gl _ _ _ _ (s₁.setTop (mkF m 20 #[.val (.ref a), .val (.int rr), .val (.int fr)] [(.int (0 : Int32))]))
    obtain ⟨fs, hr, hrun, hended, hW, hsame⟩ := X0.leave (v := some (.int (0 : Int32))) (fun h => by rw [Bd.returns] at h; cases h) (BodyLoose.notSynchronized Bd)
    exact Gl.mk ⟨_, _, retN X0 hx (t := .boolean) Bd.returns (by simp) (hb hby d6_20) hr, hrun, hended, _, _, rfl, ⟨congrArg (fun z => some (Value.int z)) ((if_neg hc10).trans (rfl)).symm, rfl, e0⟩, ⟨_, rfl⟩, hW, hsame.mono (by decide) (by decide)⟩
theorem d3_0 : decode method_5_code 0 = .ok (.aload_n 0, 1) := by decide +kernel
theorem d3_1 : decode method_5_code 1 = .ok (.iload_n 1, 1) := by decide +kernel
theorem d3_2 : decode method_5_code 2 = .ok (.iload_n 2, 1) := by decide +kernel
theorem d3_3 : decode method_5_code 3 = .ok (.invokestatic 23, 3) := by decide +kernel
theorem d3_6 : decode method_5_code 6 = .ok (.ifCond .eq 5, 3) := by decide +kernel
theorem d3_9 : decode method_5_code 9 = .ok (.iload_n 1, 1) := by decide +kernel
theorem d3_10 : decode method_5_code 10 = .ok (.ireturn, 1) := by decide +kernel
theorem d3_11 : decode method_5_code 11 = .ok (.aload_n 0, 1) := by decide +kernel
theorem d3_12 : decode method_5_code 12 = .ok (.iload_n 1, 1) := by decide +kernel
theorem d3_13 : decode method_5_code 13 = .ok (.iconst 1, 1) := by decide +kernel
theorem d3_14 : decode method_5_code 14 = .ok (.iadd, 1) := by decide +kernel
theorem d3_15 : decode method_5_code 15 = .ok (.iload_n 2, 1) := by decide +kernel
theorem d3_16 : decode method_5_code 16 = .ok (.invokestatic 23, 3) := by decide +kernel
theorem d3_19 : decode method_5_code 19 = .ok (.ifCond .eq 7, 3) := by decide +kernel
theorem d3_22 : decode method_5_code 22 = .ok (.iload_n 1, 1) := by decide +kernel
theorem d3_23 : decode method_5_code 23 = .ok (.iconst 1, 1) := by decide +kernel
theorem d3_24 : decode method_5_code 24 = .ok (.iadd, 1) := by decide +kernel
theorem d3_25 : decode method_5_code 25 = .ok (.ireturn, 1) := by decide +kernel
theorem d3_26 : decode method_5_code 26 = .ok (.aload_n 0, 1) := by decide +kernel
theorem d3_27 : decode method_5_code 27 = .ok (.iload_n 1, 1) := by decide +kernel
theorem d3_28 : decode method_5_code 28 = .ok (.iconst 2, 1) := by decide +kernel
theorem d3_29 : decode method_5_code 29 = .ok (.iadd, 1) := by decide +kernel
theorem d3_30 : decode method_5_code 30 = .ok (.iload_n 2, 1) := by decide +kernel
theorem d3_31 : decode method_5_code 31 = .ok (.invokestatic 23, 3) := by decide +kernel
theorem d3_34 : decode method_5_code 34 = .ok (.ifCond .eq 7, 3) := by decide +kernel
theorem d3_37 : decode method_5_code 37 = .ok (.iload_n 1, 1) := by decide +kernel
theorem d3_38 : decode method_5_code 38 = .ok (.iconst 2, 1) := by decide +kernel
theorem d3_39 : decode method_5_code 39 = .ok (.iadd, 1) := by decide +kernel
theorem d3_40 : decode method_5_code 40 = .ok (.ireturn, 1) := by decide +kernel
theorem d3_41 : decode method_5_code 41 = .ok (.aload_n 0, 1) := by decide +kernel
theorem d3_42 : decode method_5_code 42 = .ok (.iload_n 1, 1) := by decide +kernel
theorem d3_43 : decode method_5_code 43 = .ok (.iconst 3, 1) := by decide +kernel
theorem d3_44 : decode method_5_code 44 = .ok (.iadd, 1) := by decide +kernel
theorem d3_45 : decode method_5_code 45 = .ok (.iload_n 2, 1) := by decide +kernel
theorem d3_46 : decode method_5_code 46 = .ok (.invokestatic 23, 3) := by decide +kernel
theorem d3_49 : decode method_5_code 49 = .ok (.ifCond .eq 7, 3) := by decide +kernel
theorem d3_52 : decode method_5_code 52 = .ok (.iload_n 1, 1) := by decide +kernel
theorem d3_53 : decode method_5_code 53 = .ok (.iconst 3, 1) := by decide +kernel
theorem d3_54 : decode method_5_code 54 = .ok (.iadd, 1) := by decide +kernel
theorem d3_55 : decode method_5_code 55 = .ok (.ireturn, 1) := by decide +kernel
theorem d3_56 : decode method_5_code 56 = .ok (.aload_n 0, 1) := by decide +kernel
theorem d3_57 : decode method_5_code 57 = .ok (.iload_n 1, 1) := by decide +kernel
theorem d3_58 : decode method_5_code 58 = .ok (.iconst 4, 1) := by decide +kernel
theorem d3_59 : decode method_5_code 59 = .ok (.iadd, 1) := by decide +kernel
theorem d3_60 : decode method_5_code 60 = .ok (.iload_n 2, 1) := by decide +kernel
theorem d3_61 : decode method_5_code 61 = .ok (.invokestatic 23, 3) := by decide +kernel
theorem d3_64 : decode method_5_code 64 = .ok (.ifCond .eq 7, 3) := by decide +kernel
theorem d3_67 : decode method_5_code 67 = .ok (.iload_n 1, 1) := by decide +kernel
theorem d3_68 : decode method_5_code 68 = .ok (.iconst 4, 1) := by decide +kernel
theorem d3_69 : decode method_5_code 69 = .ok (.iadd, 1) := by decide +kernel
theorem d3_70 : decode method_5_code 70 = .ok (.ireturn, 1) := by decide +kernel
theorem d3_71 : decode method_5_code 71 = .ok (.aload_n 0, 1) := by decide +kernel
theorem d3_72 : decode method_5_code 72 = .ok (.iload_n 1, 1) := by decide +kernel
theorem d3_73 : decode method_5_code 73 = .ok (.iconst 5, 1) := by decide +kernel
theorem d3_74 : decode method_5_code 74 = .ok (.iadd, 1) := by decide +kernel
theorem d3_75 : decode method_5_code 75 = .ok (.iload_n 2, 1) := by decide +kernel
theorem d3_76 : decode method_5_code 76 = .ok (.invokestatic 23, 3) := by decide +kernel
theorem d3_79 : decode method_5_code 79 = .ok (.ifCond .eq 7, 3) := by decide +kernel
theorem d3_82 : decode method_5_code 82 = .ok (.iload_n 1, 1) := by decide +kernel
theorem d3_83 : decode method_5_code 83 = .ok (.iconst 5, 1) := by decide +kernel
theorem d3_84 : decode method_5_code 84 = .ok (.iadd, 1) := by decide +kernel
theorem d3_85 : decode method_5_code 85 = .ok (.ireturn, 1) := by decide +kernel
theorem d3_86 : decode method_5_code 86 = .ok (.iload_n 2, 1) := by decide +kernel
theorem d3_87 : decode method_5_code 87 = .ok (.ireturn, 1) := by decide +kernel
theorem pn_3 : plainName "com/example/facet/facet/xml/MarkupScannerPlainUntilPinLaw" = true := by first | (simp [plainName, overriddenIn]; done) | decide +kernel
theorem pd_0 : parseMethodDescriptor "([BII)Z" = some ⟨[(.array .byte), .int, .int], some .boolean⟩ := by decide +kernel
def f_first (ik en : Int32) (B : Int32 → Int32) : Int32 := (if (f_lt ik en B) = (0 : Int32) then (if (f_lt (ik + (1 : Int32)) en B) = (0 : Int32) then (if (f_lt (ik + (2 : Int32)) en B) = (0 : Int32) then (if (f_lt (ik + (3 : Int32)) en B) = (0 : Int32) then (if (f_lt (ik + (4 : Int32)) en B) = (0 : Int32) then (if (f_lt (ik + (5 : Int32)) en B) = (0 : Int32) then en else (ik + (5 : Int32))) else (ik + (4 : Int32))) else (ik + (3 : Int32))) else (ik + (2 : Int32))) else (ik + (1 : Int32))) else ik)
theorem ef_rm3 (m : MethodId) (x0 : Addr) (x1 : Int32) (x2 : Int32) : entryFrame m #[(.ref x0), (.int x1), (.int x2)] 3 = mkF m 0 #[.val (.ref x0), .val (.int x1), .val (.int x2)] [] := by first | (simp [entryFrame, mkF, argsToLocals, Value.category]; done) | rfl
set_option maxRecDepth 65536 in
set_option maxHeartbeats 40000000 in
theorem rm3 (l : Launch) (Z : State) (a0 : Array Value) (hw : ∀ d ∈ tables_1, d.before a0 Z = true) (ws : List Jvm.Cond) (a : Addr) (ik : Int32) (en : Int32) (B : Int32 → Int32) (h0 : Heap) (hB : BA Z h0 a .byte (6 : Int32) B) (hk : 0 ≤ ik.toInt) (hk2 : ik.toInt ≤ 1000) (hE : en.toInt ≤ 6) :
    MetFree l (⟨"com/example/facet/facet/xml/MarkupScannerPlainUntilPinLaw", "firstLt", "([BII)I"⟩ : MethodName) (head1 (Jvm.Cond.code (⟨"com/example/facet/facet/xml/MarkupScannerPlainUntilPinLaw", "firstLt", "([BII)I"⟩ : MethodName) method_5_code 3 (some .int) :: ws) ({ frames := 1, cells := 0, slots := 0, locals := 14 } : Room)) (fun aQ U => aQ = #[(.ref a), (.int ik), (.int en)] ∧ Z.Warmed39 U.vm ∧ U.heap = h0) (fun _ _ _ _ _ => True) (fun _ U o U' => ∃ vQ LQ, o = .returned vQ ∧ PQ (some (.int (f_first ik en B))) h0 vQ U'.heap LQ ∧ FrameEnd U o U' LQ ({ frames := 1, cells := 0, slots := 0, locals := 14 } : Room).cells ({ frames := 1, cells := 0, slots := 0, locals := 14 } : Room).slots) := by
  refine MetFree.of_bodySF (plainFor_of_name pn_3) hisR ?_
  intro p e s m args below meth c s₁ Bd hml0 hP hK
  obtain ⟨rfl, hZ, hh⟩ := hP
  have hx := Bd.exec
  have hby := Bd.bytes
  have hml : c.maxLocals = 3 := hml0
  have hown : s.vm.findClass "com/example/facet/facet/xml/MarkupScannerPlainUntilPinLaw" = some m.cls := findClass_of_methodNamed Bd.named
  have hnm := (name_of_methodNamed Bd.named Bd.method).1
  have X0 : Stand p l e ({ frames := 1, cells := 0, slots := 0, locals := 14 } : Room) s m #[(.ref a), (.int ik), (.int en)] below meth c s₁ [] 0 0 := Stand.of_body Bd
  have e0 : s₁.heap = h0 := by rw [← hh, Bd.state]; rfl
  refine Gl.out ?_
  refine Gl.go ?_ (fun t k => castTop (ef_rm3 m a ik en) k)
  show Gl _ _ _ _ (s₁.setTop (mkF m 0 #[.val (.ref a), .val (.int ik), .val (.int en)] []))
  refine Gl.go ?_ (fun t k => XS.aloadN X0.here hx rfl (hb hby d3_0) rfl rfl k)
  show Gl _ _ _ _ (s₁.setTop (mkF m 1 #[.val (.ref a), .val (.int ik), .val (.int en)] [(.ref a)]))
  refine Gl.go ?_ (fun t k => XS.iloadN X0.here hx rfl (hb hby d3_1) rfl k)
  show Gl _ _ _ _ (s₁.setTop (mkF m 2 #[.val (.ref a), .val (.int ik), .val (.int en)] [(.int ik), (.ref a)]))
  refine Gl.go ?_ (fun t k => XS.iloadN X0.here hx rfl (hb hby d3_2) rfl k)
  show Gl _ _ _ _ (s₁.setTop (mkF m 3 #[.val (.ref a), .val (.int ik), .val (.int en)] [(.int en), (.int ik), (.ref a)]))
  obtain ⟨_, _, ⟨T12, L12, k12, n12⟩, -, X12, ⟨Lc12, hQ12, l12, y12, z12⟩, st12⟩ := Jvm.LawKit.callS X0 hx (y := (⟨"com/example/facet/facet/xml/MarkupScannerPlainUntilPinLaw", "lt", "([BII)Z"⟩ : MethodName)) hown (mvT hZ (hw _ (List.mem_of_getElem? (i := 12) rfl))) (mvT hZ (hw _ (List.mem_of_getElem? (i := 13) rfl))) (mvT hZ (hw _ (List.mem_of_getElem? (i := 3) rfl))) (mvT hZ (hw _ (List.mem_of_getElem? (i := 14) rfl))) (by decide) (backOf (W := 0) (rm4 l Z a0 hw [] a ik en B h0 hB hk hE) hZ (hw _ (List.mem_of_getElem? (i := 14) rfl)) (hw _ (List.mem_of_getElem? (i := 3) rfl)) (by decide) (by decide)) (g := (mkF m 3 #[.val (.ref a), .val (.int ik), .val (.int en)] [(.int en), (.int ik), (.ref a)])) rfl (by rw [hml]; rfl) (argsL := [(.ref a), (.int ik), (.int en)]) (rest := []) (lenOf pd_0 rfl) rfl (by show 2 * 0 + _ ≤ _; exact Nat.le_of_eq rfl) (hb hby d3_3) (fun _ _ => ⟨rfl, e0, (by decide : 0 + 0 ≤ _), (by decide : 0 + 0 ≤ _)⟩)
  dsimp only [Pt.U, Pt.locs, Pt.cells, Pt.slots] at X12 l12 y12 z12 st12 hQ12
  subst l12 y12 z12
  obtain ⟨rfl, rfl, e12⟩ := hQ12
  refine Gl.go ?_ st12
  show Gl _ _ _ _ (T12.setTop (mkF m 6 #[.val (.ref a), .val (.int ik), .val (.int en)] [(.int (f_lt ik en B))]))
  by_cases hc13 : (f_lt ik en B) = (0 : Int32)
  · refine Gl.go ?_ (fun t k => XS.ifYes X12.here hx rfl (pc0 := 6) (pc' := 11) rfl (hb hby d3_6) rfl ((if0 _ _).trans (teq hc13).1) (by decide) (by decide) k)
    show Gl _ _ _ _ (T12.setTop (mkF m 11 #[.val (.ref a), .val (.int ik), .val (.int en)] []))
    refine Gl.go ?_ (fun t k => XS.aloadN X12.here hx rfl (hb hby d3_11) rfl rfl k)
    show Gl _ _ _ _ (T12.setTop (mkF m 12 #[.val (.ref a), .val (.int ik), .val (.int en)] [(.ref a)]))
    refine Gl.go ?_ (fun t k => XS.iloadN X12.here hx rfl (hb hby d3_12) rfl k)
    show Gl _ _ _ _ (T12.setTop (mkF m 13 #[.val (.ref a), .val (.int ik), .val (.int en)] [(.int ik), (.ref a)]))
    refine Gl.go ?_ (fun t k => XS.iconst X12.here hx rfl (hb hby d3_13) k)
    show Gl _ _ _ _ (T12.setTop (mkF m 14 #[.val (.ref a), .val (.int ik), .val (.int en)] [(.int (1 : Int32)), (.int ik), (.ref a)]))
    refine Gl.go ?_ (fun t k => XS.iadd X12.here hx rfl (hb hby d3_14) rfl k)
    show Gl _ _ _ _ (T12.setTop (mkF m 15 #[.val (.ref a), .val (.int ik), .val (.int en)] [(.int (ik + (1 : Int32))), (.ref a)]))
    refine Gl.go ?_ (fun t k => XS.iloadN X12.here hx rfl (hb hby d3_15) rfl k)
    show Gl _ _ _ _ (T12.setTop (mkF m 16 #[.val (.ref a), .val (.int ik), .val (.int en)] [(.int en), (.int (ik + (1 : Int32))), (.ref a)]))
    obtain ⟨_, _, ⟨T14, L14, k14, n14⟩, -, X14, ⟨Lc14, hQ14, l14, y14, z14⟩, st14⟩ := Jvm.LawKit.callS X12 hx (y := (⟨"com/example/facet/facet/xml/MarkupScannerPlainUntilPinLaw", "lt", "([BII)Z"⟩ : MethodName)) hown (mvT hZ (hw _ (List.mem_of_getElem? (i := 12) rfl))) (mvT hZ (hw _ (List.mem_of_getElem? (i := 13) rfl))) (mvT hZ (hw _ (List.mem_of_getElem? (i := 3) rfl))) (mvT hZ (hw _ (List.mem_of_getElem? (i := 14) rfl))) (by decide) (backOf (W := 0) (rm4 l Z a0 hw [] a (ik + (1 : Int32)) en B h0 hB (own_addn (c := 1) rfl hk hk2 (by decide) (by decide)) hE) hZ (hw _ (List.mem_of_getElem? (i := 14) rfl)) (hw _ (List.mem_of_getElem? (i := 3) rfl)) (by decide) (by decide)) (g := (mkF m 16 #[.val (.ref a), .val (.int ik), .val (.int en)] [(.int en), (.int (ik + (1 : Int32))), (.ref a)])) rfl (by rw [hml]; rfl) (argsL := [(.ref a), (.int (ik + (1 : Int32))), (.int en)]) (rest := []) (lenOf pd_0 rfl) rfl (by show 2 * 0 + _ ≤ _; exact Nat.le_of_eq rfl) (hb hby d3_16) (fun _ _ => ⟨rfl, e12, (by decide : 0 + 0 ≤ _), (by decide : 0 + 0 ≤ _)⟩)
    dsimp only [Pt.U, Pt.locs, Pt.cells, Pt.slots] at X14 l14 y14 z14 st14 hQ14
    subst l14 y14 z14
    obtain ⟨rfl, rfl, e14⟩ := hQ14
    refine Gl.go ?_ st14
    show Gl _ _ _ _ (T14.setTop (mkF m 19 #[.val (.ref a), .val (.int ik), .val (.int en)] [(.int (f_lt (ik + (1 : Int32)) en B))]))
    by_cases hc15 : (f_lt (ik + (1 : Int32)) en B) = (0 : Int32)
    · refine Gl.go ?_ (fun t k => XS.ifYes X14.here hx rfl (pc0 := 19) (pc' := 26) rfl (hb hby d3_19) rfl ((if0 _ _).trans (teq hc15).1) (by decide) (by decide) k)
      show Gl _ _ _ _ (T14.setTop (mkF m 26 #[.val (.ref a), .val (.int ik), .val (.int en)] []))
      refine Gl.go ?_ (fun t k => XS.aloadN X14.here hx rfl (hb hby d3_26) rfl rfl k)
      show Gl _ _ _ _ (T14.setTop (mkF m 27 #[.val (.ref a), .val (.int ik), .val (.int en)] [(.ref a)]))
      refine Gl.go ?_ (fun t k => XS.iloadN X14.here hx rfl (hb hby d3_27) rfl k)
      show Gl _ _ _ _ (T14.setTop (mkF m 28 #[.val (.ref a), .val (.int ik), .val (.int en)] [(.int ik), (.ref a)]))
      refine Gl.go ?_ (fun t k => XS.iconst X14.here hx rfl (hb hby d3_28) k)
      show Gl _ _ _ _ (T14.setTop (mkF m 29 #[.val (.ref a), .val (.int ik), .val (.int en)] [(.int (2 : Int32)), (.int ik), (.ref a)]))
      refine Gl.go ?_ (fun t k => XS.iadd X14.here hx rfl (hb hby d3_29) rfl k)
      show Gl _ _ _ _ (T14.setTop (mkF m 30 #[.val (.ref a), .val (.int ik), .val (.int en)] [(.int (ik + (2 : Int32))), (.ref a)]))
      refine Gl.go ?_ (fun t k => XS.iloadN X14.here hx rfl (hb hby d3_30) rfl k)
      show Gl _ _ _ _ (T14.setTop (mkF m 31 #[.val (.ref a), .val (.int ik), .val (.int en)] [(.int en), (.int (ik + (2 : Int32))), (.ref a)]))
      obtain ⟨_, _, ⟨T16, L16, k16, n16⟩, -, X16, ⟨Lc16, hQ16, l16, y16, z16⟩, st16⟩ := Jvm.LawKit.callS X14 hx (y := (⟨"com/example/facet/facet/xml/MarkupScannerPlainUntilPinLaw", "lt", "([BII)Z"⟩ : MethodName)) hown (mvT hZ (hw _ (List.mem_of_getElem? (i := 12) rfl))) (mvT hZ (hw _ (List.mem_of_getElem? (i := 13) rfl))) (mvT hZ (hw _ (List.mem_of_getElem? (i := 3) rfl))) (mvT hZ (hw _ (List.mem_of_getElem? (i := 14) rfl))) (by decide) (backOf (W := 0) (rm4 l Z a0 hw [] a (ik + (2 : Int32)) en B h0 hB (own_addn (c := 2) rfl hk hk2 (by decide) (by decide)) hE) hZ (hw _ (List.mem_of_getElem? (i := 14) rfl)) (hw _ (List.mem_of_getElem? (i := 3) rfl)) (by decide) (by decide)) (g := (mkF m 31 #[.val (.ref a), .val (.int ik), .val (.int en)] [(.int en), (.int (ik + (2 : Int32))), (.ref a)])) rfl (by rw [hml]; rfl) (argsL := [(.ref a), (.int (ik + (2 : Int32))), (.int en)]) (rest := []) (lenOf pd_0 rfl) rfl (by show 2 * 0 + _ ≤ _; exact Nat.le_of_eq rfl) (hb hby d3_31) (fun _ _ => ⟨rfl, e14, (by decide : 0 + 0 ≤ _), (by decide : 0 + 0 ≤ _)⟩)
      dsimp only [Pt.U, Pt.locs, Pt.cells, Pt.slots] at X16 l16 y16 z16 st16 hQ16
      subst l16 y16 z16
      obtain ⟨rfl, rfl, e16⟩ := hQ16
      refine Gl.go ?_ st16
      show Gl _ _ _ _ (T16.setTop (mkF m 34 #[.val (.ref a), .val (.int ik), .val (.int en)] [(.int (f_lt (ik + (2 : Int32)) en B))]))
      by_cases hc17 : (f_lt (ik + (2 : Int32)) en B) = (0 : Int32)
      · refine Gl.go ?_ (fun t k => XS.ifYes X16.here hx rfl (pc0 := 34) (pc' := 41) rfl (hb hby d3_34) rfl ((if0 _ _).trans (teq hc17).1) (by decide) (by decide) k)
        show Gl _ _ _ _ (T16.setTop (mkF m 41 #[.val (.ref a), .val (.int ik), .val (.int en)] []))
        refine Gl.go ?_ (fun t k => XS.aloadN X16.here hx rfl (hb hby d3_41) rfl rfl k)
        show Gl _ _ _ _ (T16.setTop (mkF m 42 #[.val (.ref a), .val (.int ik), .val (.int en)] [(.ref a)]))
        refine Gl.go ?_ (fun t k => XS.iloadN X16.here hx rfl (hb hby d3_42) rfl k)
        show Gl _ _ _ _ (T16.setTop (mkF m 43 #[.val (.ref a), .val (.int ik), .val (.int en)] [(.int ik), (.ref a)]))
        refine Gl.go ?_ (fun t k => XS.iconst X16.here hx rfl (hb hby d3_43) k)
        show Gl _ _ _ _ (T16.setTop (mkF m 44 #[.val (.ref a), .val (.int ik), .val (.int en)] [(.int (3 : Int32)), (.int ik), (.ref a)]))
        refine Gl.go ?_ (fun t k => XS.iadd X16.here hx rfl (hb hby d3_44) rfl k)
        show Gl _ _ _ _ (T16.setTop (mkF m 45 #[.val (.ref a), .val (.int ik), .val (.int en)] [(.int (ik + (3 : Int32))), (.ref a)]))
        refine Gl.go ?_ (fun t k => XS.iloadN X16.here hx rfl (hb hby d3_45) rfl k)
        show Gl _ _ _ _ (T16.setTop (mkF m 46 #[.val (.ref a), .val (.int ik), .val (.int en)] [(.int en), (.int (ik + (3 : Int32))), (.ref a)]))
        obtain ⟨_, _, ⟨T18, L18, k18, n18⟩, -, X18, ⟨Lc18, hQ18, l18, y18, z18⟩, st18⟩ := Jvm.LawKit.callS X16 hx (y := (⟨"com/example/facet/facet/xml/MarkupScannerPlainUntilPinLaw", "lt", "([BII)Z"⟩ : MethodName)) hown (mvT hZ (hw _ (List.mem_of_getElem? (i := 12) rfl))) (mvT hZ (hw _ (List.mem_of_getElem? (i := 13) rfl))) (mvT hZ (hw _ (List.mem_of_getElem? (i := 3) rfl))) (mvT hZ (hw _ (List.mem_of_getElem? (i := 14) rfl))) (by decide) (backOf (W := 0) (rm4 l Z a0 hw [] a (ik + (3 : Int32)) en B h0 hB (own_addn (c := 3) rfl hk hk2 (by decide) (by decide)) hE) hZ (hw _ (List.mem_of_getElem? (i := 14) rfl)) (hw _ (List.mem_of_getElem? (i := 3) rfl)) (by decide) (by decide)) (g := (mkF m 46 #[.val (.ref a), .val (.int ik), .val (.int en)] [(.int en), (.int (ik + (3 : Int32))), (.ref a)])) rfl (by rw [hml]; rfl) (argsL := [(.ref a), (.int (ik + (3 : Int32))), (.int en)]) (rest := []) (lenOf pd_0 rfl) rfl (by show 2 * 0 + _ ≤ _; exact Nat.le_of_eq rfl) (hb hby d3_46) (fun _ _ => ⟨rfl, e16, (by decide : 0 + 0 ≤ _), (by decide : 0 + 0 ≤ _)⟩)
        dsimp only [Pt.U, Pt.locs, Pt.cells, Pt.slots] at X18 l18 y18 z18 st18 hQ18
        subst l18 y18 z18
        obtain ⟨rfl, rfl, e18⟩ := hQ18
        refine Gl.go ?_ st18
        show Gl _ _ _ _ (T18.setTop (mkF m 49 #[.val (.ref a), .val (.int ik), .val (.int en)] [(.int (f_lt (ik + (3 : Int32)) en B))]))
        by_cases hc19 : (f_lt (ik + (3 : Int32)) en B) = (0 : Int32)
        · refine Gl.go ?_ (fun t k => XS.ifYes X18.here hx rfl (pc0 := 49) (pc' := 56) rfl (hb hby d3_49) rfl ((if0 _ _).trans (teq hc19).1) (by decide) (by decide) k)
          show Gl _ _ _ _ (T18.setTop (mkF m 56 #[.val (.ref a), .val (.int ik), .val (.int en)] []))
          refine Gl.go ?_ (fun t k => XS.aloadN X18.here hx rfl (hb hby d3_56) rfl rfl k)
          show Gl _ _ _ _ (T18.setTop (mkF m 57 #[.val (.ref a), .val (.int ik), .val (.int en)] [(.ref a)]))
          refine Gl.go ?_ (fun t k => XS.iloadN X18.here hx rfl (hb hby d3_57) rfl k)
          show Gl _ _ _ _ (T18.setTop (mkF m 58 #[.val (.ref a), .val (.int ik), .val (.int en)] [(.int ik), (.ref a)]))
          refine Gl.go ?_ (fun t k => XS.iconst X18.here hx rfl (hb hby d3_58) k)
          show Gl _ _ _ _ (T18.setTop (mkF m 59 #[.val (.ref a), .val (.int ik), .val (.int en)] [(.int (4 : Int32)), (.int ik), (.ref a)]))
          refine Gl.go ?_ (fun t k => XS.iadd X18.here hx rfl (hb hby d3_59) rfl k)
          show Gl _ _ _ _ (T18.setTop (mkF m 60 #[.val (.ref a), .val (.int ik), .val (.int en)] [(.int (ik + (4 : Int32))), (.ref a)]))
          refine Gl.go ?_ (fun t k => XS.iloadN X18.here hx rfl (hb hby d3_60) rfl k)
          show Gl _ _ _ _ (T18.setTop (mkF m 61 #[.val (.ref a), .val (.int ik), .val (.int en)] [(.int en), (.int (ik + (4 : Int32))), (.ref a)]))
          obtain ⟨_, _, ⟨T20, L20, k20, n20⟩, -, X20, ⟨Lc20, hQ20, l20, y20, z20⟩, st20⟩ := Jvm.LawKit.callS X18 hx (y := (⟨"com/example/facet/facet/xml/MarkupScannerPlainUntilPinLaw", "lt", "([BII)Z"⟩ : MethodName)) hown (mvT hZ (hw _ (List.mem_of_getElem? (i := 12) rfl))) (mvT hZ (hw _ (List.mem_of_getElem? (i := 13) rfl))) (mvT hZ (hw _ (List.mem_of_getElem? (i := 3) rfl))) (mvT hZ (hw _ (List.mem_of_getElem? (i := 14) rfl))) (by decide) (backOf (W := 0) (rm4 l Z a0 hw [] a (ik + (4 : Int32)) en B h0 hB (own_addn (c := 4) rfl hk hk2 (by decide) (by decide)) hE) hZ (hw _ (List.mem_of_getElem? (i := 14) rfl)) (hw _ (List.mem_of_getElem? (i := 3) rfl)) (by decide) (by decide)) (g := (mkF m 61 #[.val (.ref a), .val (.int ik), .val (.int en)] [(.int en), (.int (ik + (4 : Int32))), (.ref a)])) rfl (by rw [hml]; rfl) (argsL := [(.ref a), (.int (ik + (4 : Int32))), (.int en)]) (rest := []) (lenOf pd_0 rfl) rfl (by show 2 * 0 + _ ≤ _; exact Nat.le_of_eq rfl) (hb hby d3_61) (fun _ _ => ⟨rfl, e18, (by decide : 0 + 0 ≤ _), (by decide : 0 + 0 ≤ _)⟩)
          dsimp only [Pt.U, Pt.locs, Pt.cells, Pt.slots] at X20 l20 y20 z20 st20 hQ20
          subst l20 y20 z20
          obtain ⟨rfl, rfl, e20⟩ := hQ20
          refine Gl.go ?_ st20
          show Gl _ _ _ _ (T20.setTop (mkF m 64 #[.val (.ref a), .val (.int ik), .val (.int en)] [(.int (f_lt (ik + (4 : Int32)) en B))]))
          by_cases hc21 : (f_lt (ik + (4 : Int32)) en B) = (0 : Int32)
          · refine Gl.go ?_ (fun t k => XS.ifYes X20.here hx rfl (pc0 := 64) (pc' := 71) rfl (hb hby d3_64) rfl ((if0 _ _).trans (teq hc21).1) (by decide) (by decide) k)
            show Gl _ _ _ _ (T20.setTop (mkF m 71 #[.val (.ref a), .val (.int ik), .val (.int en)] []))
            refine Gl.go ?_ (fun t k => XS.aloadN X20.here hx rfl (hb hby d3_71) rfl rfl k)
            show Gl _ _ _ _ (T20.setTop (mkF m 72 #[.val (.ref a), .val (.int ik), .val (.int en)] [(.ref a)]))
            refine Gl.go ?_ (fun t k => XS.iloadN X20.here hx rfl (hb hby d3_72) rfl k)
            show Gl _ _ _ _ (T20.setTop (mkF m 73 #[.val (.ref a), .val (.int ik), .val (.int en)] [(.int ik), (.ref a)]))
            refine Gl.go ?_ (fun t k => XS.iconst X20.here hx rfl (hb hby d3_73) k)
            show Gl _ _ _ _ (T20.setTop (mkF m 74 #[.val (.ref a), .val (.int ik), .val (.int en)] [(.int (5 : Int32)), (.int ik), (.ref a)]))
            refine Gl.go ?_ (fun t k => XS.iadd X20.here hx rfl (hb hby d3_74) rfl k)
            show Gl _ _ _ _ (T20.setTop (mkF m 75 #[.val (.ref a), .val (.int ik), .val (.int en)] [(.int (ik + (5 : Int32))), (.ref a)]))
            refine Gl.go ?_ (fun t k => XS.iloadN X20.here hx rfl (hb hby d3_75) rfl k)
            show Gl _ _ _ _ (T20.setTop (mkF m 76 #[.val (.ref a), .val (.int ik), .val (.int en)] [(.int en), (.int (ik + (5 : Int32))), (.ref a)]))
            obtain ⟨_, _, ⟨T22, L22, k22, n22⟩, -, X22, ⟨Lc22, hQ22, l22, y22, z22⟩, st22⟩ := Jvm.LawKit.callS X20 hx (y := (⟨"com/example/facet/facet/xml/MarkupScannerPlainUntilPinLaw", "lt", "([BII)Z"⟩ : MethodName)) hown (mvT hZ (hw _ (List.mem_of_getElem? (i := 12) rfl))) (mvT hZ (hw _ (List.mem_of_getElem? (i := 13) rfl))) (mvT hZ (hw _ (List.mem_of_getElem? (i := 3) rfl))) (mvT hZ (hw _ (List.mem_of_getElem? (i := 14) rfl))) (by decide) (backOf (W := 0) (rm4 l Z a0 hw [] a (ik + (5 : Int32)) en B h0 hB (own_addn (c := 5) rfl hk hk2 (by decide) (by decide)) hE) hZ (hw _ (List.mem_of_getElem? (i := 14) rfl)) (hw _ (List.mem_of_getElem? (i := 3) rfl)) (by decide) (by decide)) (g := (mkF m 76 #[.val (.ref a), .val (.int ik), .val (.int en)] [(.int en), (.int (ik + (5 : Int32))), (.ref a)])) rfl (by rw [hml]; rfl) (argsL := [(.ref a), (.int (ik + (5 : Int32))), (.int en)]) (rest := []) (lenOf pd_0 rfl) rfl (by show 2 * 0 + _ ≤ _; exact Nat.le_of_eq rfl) (hb hby d3_76) (fun _ _ => ⟨rfl, e20, (by decide : 0 + 0 ≤ _), (by decide : 0 + 0 ≤ _)⟩)
            dsimp only [Pt.U, Pt.locs, Pt.cells, Pt.slots] at X22 l22 y22 z22 st22 hQ22
            subst l22 y22 z22
            obtain ⟨rfl, rfl, e22⟩ := hQ22
            refine Gl.go ?_ st22
            show Gl _ _ _ _ (T22.setTop (mkF m 79 #[.val (.ref a), .val (.int ik), .val (.int en)] [(.int (f_lt (ik + (5 : Int32)) en B))]))
            by_cases hc23 : (f_lt (ik + (5 : Int32)) en B) = (0 : Int32)
            · refine Gl.go ?_ (fun t k => XS.ifYes X22.here hx rfl (pc0 := 79) (pc' := 86) rfl (hb hby d3_79) rfl ((if0 _ _).trans (teq hc23).1) (by decide) (by decide) k)
              show Gl _ _ _ _ (T22.setTop (mkF m 86 #[.val (.ref a), .val (.int ik), .val (.int en)] []))
              refine Gl.go ?_ (fun t k => XS.iloadN X22.here hx rfl (hb hby d3_86) rfl k)
              show Gl _ _ _ _ (T22.setTop (mkF m 87 #[.val (.ref a), .val (.int ik), .val (.int en)] [(.int en)]))
              obtain ⟨fs, hr, hrun, hended, hW, hsame⟩ := X22.leave (v := some (.int en)) (fun h => by rw [Bd.returns] at h; cases h) (BodyLoose.notSynchronized Bd)
              exact Gl.mk ⟨_, _, retI X22 hx Bd.returns (hb hby d3_87) hr, hrun, hended, _, _, rfl, ⟨congrArg (fun z => some (Value.int z)) ((if_pos hc13).trans ((if_pos hc15).trans ((if_pos hc17).trans ((if_pos hc19).trans ((if_pos hc21).trans ((if_pos hc23).trans (rfl))))))).symm, rfl, e22⟩, ⟨_, rfl⟩, hW, hsame.mono (by decide) (by decide)⟩
            · refine Gl.go ?_ (fun t k => XS.ifNo X22.here hx rfl (hb hby d3_79) rfl ((if0 _ _).trans (feq hc23).1) k)
              show Gl _ _ _ _ (T22.setTop (mkF m 82 #[.val (.ref a), .val (.int ik), .val (.int en)] []))
              refine Gl.go ?_ (fun t k => XS.iloadN X22.here hx rfl (hb hby d3_82) rfl k)
              show Gl _ _ _ _ (T22.setTop (mkF m 83 #[.val (.ref a), .val (.int ik), .val (.int en)] [(.int ik)]))
              refine Gl.go ?_ (fun t k => XS.iconst X22.here hx rfl (hb hby d3_83) k)
              show Gl _ _ _ _ (T22.setTop (mkF m 84 #[.val (.ref a), .val (.int ik), .val (.int en)] [(.int (5 : Int32)), (.int ik)]))
              refine Gl.go ?_ (fun t k => XS.iadd X22.here hx rfl (hb hby d3_84) rfl k)
              show Gl _ _ _ _ (T22.setTop (mkF m 85 #[.val (.ref a), .val (.int ik), .val (.int en)] [(.int (ik + (5 : Int32)))]))
              obtain ⟨fs, hr, hrun, hended, hW, hsame⟩ := X22.leave (v := some (.int (ik + (5 : Int32)))) (fun h => by rw [Bd.returns] at h; cases h) (BodyLoose.notSynchronized Bd)
              exact Gl.mk ⟨_, _, retI X22 hx Bd.returns (hb hby d3_85) hr, hrun, hended, _, _, rfl, ⟨congrArg (fun z => some (Value.int z)) ((if_pos hc13).trans ((if_pos hc15).trans ((if_pos hc17).trans ((if_pos hc19).trans ((if_pos hc21).trans ((if_neg hc23).trans (rfl))))))).symm, rfl, e22⟩, ⟨_, rfl⟩, hW, hsame.mono (by decide) (by decide)⟩
          · refine Gl.go ?_ (fun t k => XS.ifNo X20.here hx rfl (hb hby d3_64) rfl ((if0 _ _).trans (feq hc21).1) k)
            show Gl _ _ _ _ (T20.setTop (mkF m 67 #[.val (.ref a), .val (.int ik), .val (.int en)] []))
            refine Gl.go ?_ (fun t k => XS.iloadN X20.here hx rfl (hb hby d3_67) rfl k)
            show Gl _ _ _ _ (T20.setTop (mkF m 68 #[.val (.ref a), .val (.int ik), .val (.int en)] [(.int ik)]))
            refine Gl.go ?_ (fun t k => XS.iconst X20.here hx rfl (hb hby d3_68) k)
            show Gl _ _ _ _ (T20.setTop (mkF m 69 #[.val (.ref a), .val (.int ik), .val (.int en)] [(.int (4 : Int32)), (.int ik)]))
            refine Gl.go ?_ (fun t k => XS.iadd X20.here hx rfl (hb hby d3_69) rfl k)
            show Gl _ _ _ _ (T20.setTop (mkF m 70 #[.val (.ref a), .val (.int ik), .val (.int en)] [(.int (ik + (4 : Int32)))]))
            obtain ⟨fs, hr, hrun, hended, hW, hsame⟩ := X20.leave (v := some (.int (ik + (4 : Int32)))) (fun h => by rw [Bd.returns] at h; cases h) (BodyLoose.notSynchronized Bd)
            exact Gl.mk ⟨_, _, retI X20 hx Bd.returns (hb hby d3_70) hr, hrun, hended, _, _, rfl, ⟨congrArg (fun z => some (Value.int z)) ((if_pos hc13).trans ((if_pos hc15).trans ((if_pos hc17).trans ((if_pos hc19).trans ((if_neg hc21).trans (rfl)))))).symm, rfl, e20⟩, ⟨_, rfl⟩, hW, hsame.mono (by decide) (by decide)⟩
        · refine Gl.go ?_ (fun t k => XS.ifNo X18.here hx rfl (hb hby d3_49) rfl ((if0 _ _).trans (feq hc19).1) k)
          show Gl _ _ _ _ (T18.setTop (mkF m 52 #[.val (.ref a), .val (.int ik), .val (.int en)] []))
          refine Gl.go ?_ (fun t k => XS.iloadN X18.here hx rfl (hb hby d3_52) rfl k)
          show Gl _ _ _ _ (T18.setTop (mkF m 53 #[.val (.ref a), .val (.int ik), .val (.int en)] [(.int ik)]))
          refine Gl.go ?_ (fun t k => XS.iconst X18.here hx rfl (hb hby d3_53) k)
          show Gl _ _ _ _ (T18.setTop (mkF m 54 #[.val (.ref a), .val (.int ik), .val (.int en)] [(.int (3 : Int32)), (.int ik)]))
          refine Gl.go ?_ (fun t k => XS.iadd X18.here hx rfl (hb hby d3_54) rfl k)
          show Gl _ _ _ _ (T18.setTop (mkF m 55 #[.val (.ref a), .val (.int ik), .val (.int en)] [(.int (ik + (3 : Int32)))]))
          obtain ⟨fs, hr, hrun, hended, hW, hsame⟩ := X18.leave (v := some (.int (ik + (3 : Int32)))) (fun h => by rw [Bd.returns] at h; cases h) (BodyLoose.notSynchronized Bd)
          exact Gl.mk ⟨_, _, retI X18 hx Bd.returns (hb hby d3_55) hr, hrun, hended, _, _, rfl, ⟨congrArg (fun z => some (Value.int z)) ((if_pos hc13).trans ((if_pos hc15).trans ((if_pos hc17).trans ((if_neg hc19).trans (rfl))))).symm, rfl, e18⟩, ⟨_, rfl⟩, hW, hsame.mono (by decide) (by decide)⟩
      · refine Gl.go ?_ (fun t k => XS.ifNo X16.here hx rfl (hb hby d3_34) rfl ((if0 _ _).trans (feq hc17).1) k)
        show Gl _ _ _ _ (T16.setTop (mkF m 37 #[.val (.ref a), .val (.int ik), .val (.int en)] []))
        refine Gl.go ?_ (fun t k => XS.iloadN X16.here hx rfl (hb hby d3_37) rfl k)
        show Gl _ _ _ _ (T16.setTop (mkF m 38 #[.val (.ref a), .val (.int ik), .val (.int en)] [(.int ik)]))
        refine Gl.go ?_ (fun t k => XS.iconst X16.here hx rfl (hb hby d3_38) k)
        show Gl _ _ _ _ (T16.setTop (mkF m 39 #[.val (.ref a), .val (.int ik), .val (.int en)] [(.int (2 : Int32)), (.int ik)]))
        refine Gl.go ?_ (fun t k => XS.iadd X16.here hx rfl (hb hby d3_39) rfl k)
        show Gl _ _ _ _ (T16.setTop (mkF m 40 #[.val (.ref a), .val (.int ik), .val (.int en)] [(.int (ik + (2 : Int32)))]))
        obtain ⟨fs, hr, hrun, hended, hW, hsame⟩ := X16.leave (v := some (.int (ik + (2 : Int32)))) (fun h => by rw [Bd.returns] at h; cases h) (BodyLoose.notSynchronized Bd)
        exact Gl.mk ⟨_, _, retI X16 hx Bd.returns (hb hby d3_40) hr, hrun, hended, _, _, rfl, ⟨congrArg (fun z => some (Value.int z)) ((if_pos hc13).trans ((if_pos hc15).trans ((if_neg hc17).trans (rfl)))).symm, rfl, e16⟩, ⟨_, rfl⟩, hW, hsame.mono (by decide) (by decide)⟩
    · refine Gl.go ?_ (fun t k => XS.ifNo X14.here hx rfl (hb hby d3_19) rfl ((if0 _ _).trans (feq hc15).1) k)
      show Gl _ _ _ _ (T14.setTop (mkF m 22 #[.val (.ref a), .val (.int ik), .val (.int en)] []))
      refine Gl.go ?_ (fun t k => XS.iloadN X14.here hx rfl (hb hby d3_22) rfl k)
      show Gl _ _ _ _ (T14.setTop (mkF m 23 #[.val (.ref a), .val (.int ik), .val (.int en)] [(.int ik)]))
      refine Gl.go ?_ (fun t k => XS.iconst X14.here hx rfl (hb hby d3_23) k)
      show Gl _ _ _ _ (T14.setTop (mkF m 24 #[.val (.ref a), .val (.int ik), .val (.int en)] [(.int (1 : Int32)), (.int ik)]))
      refine Gl.go ?_ (fun t k => XS.iadd X14.here hx rfl (hb hby d3_24) rfl k)
      show Gl _ _ _ _ (T14.setTop (mkF m 25 #[.val (.ref a), .val (.int ik), .val (.int en)] [(.int (ik + (1 : Int32)))]))
      obtain ⟨fs, hr, hrun, hended, hW, hsame⟩ := X14.leave (v := some (.int (ik + (1 : Int32)))) (fun h => by rw [Bd.returns] at h; cases h) (BodyLoose.notSynchronized Bd)
      exact Gl.mk ⟨_, _, retI X14 hx Bd.returns (hb hby d3_25) hr, hrun, hended, _, _, rfl, ⟨congrArg (fun z => some (Value.int z)) ((if_pos hc13).trans ((if_neg hc15).trans (rfl))).symm, rfl, e14⟩, ⟨_, rfl⟩, hW, hsame.mono (by decide) (by decide)⟩
  · refine Gl.go ?_ (fun t k => XS.ifNo X12.here hx rfl (hb hby d3_6) rfl ((if0 _ _).trans (feq hc13).1) k)
    show Gl _ _ _ _ (T12.setTop (mkF m 9 #[.val (.ref a), .val (.int ik), .val (.int en)] []))
    refine Gl.go ?_ (fun t k => XS.iloadN X12.here hx rfl (hb hby d3_9) rfl k)
    show Gl _ _ _ _ (T12.setTop (mkF m 10 #[.val (.ref a), .val (.int ik), .val (.int en)] [(.int ik)]))
    obtain ⟨fs, hr, hrun, hended, hW, hsame⟩ := X12.leave (v := some (.int ik)) (fun h => by rw [Bd.returns] at h; cases h) (BodyLoose.notSynchronized Bd)
    exact Gl.mk ⟨_, _, retI X12 hx Bd.returns (hb hby d3_10) hr, hrun, hended, _, _, rfl, ⟨congrArg (fun z => some (Value.int z)) ((if_neg hc13).trans (rfl)).symm, rfl, e12⟩, ⟨_, rfl⟩, hW, hsame.mono (by decide) (by decide)⟩
theorem own_clz {r fr : Int32} {B : Int32 → Int32} (h : ¬ f_closes r fr B = 0) : fr < r := by
  by_cases q : fr < r
  · exact q
  · exact absurd (if_neg q) h
theorem own_down {r fr : Int32} (hf : 0 ≤ fr.toInt) (hr : r.toInt ≤ 6) (h : fr < r) : (r + (-1 : Int32)).toInt ≤ 6 := by
  have h' := h
  rw [Int32.lt_iff_toInt_lt] at h'
  rw [own_add (c := -1) rfl (by omega) (by omega) (by decide) (by decide)]; omega
theorem d5_0 : decode method_8_code 0 = .ok (.iload_n 2, 1) := by decide +kernel
theorem d5_1 : decode method_8_code 1 = .ok (.istore_n 3, 1) := by decide +kernel
theorem d5_2 : decode method_8_code 2 = .ok (.aload_n 0, 1) := by decide +kernel
theorem d5_3 : decode method_8_code 3 = .ok (.iload_n 3, 1) := by decide +kernel
theorem d5_4 : decode method_8_code 4 = .ok (.iload_n 1, 1) := by decide +kernel
theorem d5_5 : decode method_8_code 5 = .ok (.invokestatic 27, 3) := by decide +kernel
theorem d5_8 : decode method_8_code 8 = .ok (.ifCond .eq 6, 3) := by decide +kernel
theorem d5_11 : decode method_8_code 11 = .ok (.iinc 3 (-1), 3) := by decide +kernel
theorem d5_14 : decode method_8_code 14 = .ok (.aload_n 0, 1) := by decide +kernel
theorem d5_15 : decode method_8_code 15 = .ok (.iload_n 3, 1) := by decide +kernel
theorem d5_16 : decode method_8_code 16 = .ok (.iload_n 1, 1) := by decide +kernel
theorem d5_17 : decode method_8_code 17 = .ok (.invokestatic 27, 3) := by decide +kernel
theorem d5_20 : decode method_8_code 20 = .ok (.ifCond .eq 6, 3) := by decide +kernel
theorem d5_23 : decode method_8_code 23 = .ok (.iinc 3 (-1), 3) := by decide +kernel
theorem d5_26 : decode method_8_code 26 = .ok (.aload_n 0, 1) := by decide +kernel
theorem d5_27 : decode method_8_code 27 = .ok (.iload_n 3, 1) := by decide +kernel
theorem d5_28 : decode method_8_code 28 = .ok (.iload_n 1, 1) := by decide +kernel
theorem d5_29 : decode method_8_code 29 = .ok (.invokestatic 27, 3) := by decide +kernel
theorem d5_32 : decode method_8_code 32 = .ok (.ifCond .eq 6, 3) := by decide +kernel
theorem d5_35 : decode method_8_code 35 = .ok (.iinc 3 (-1), 3) := by decide +kernel
theorem d5_38 : decode method_8_code 38 = .ok (.aload_n 0, 1) := by decide +kernel
theorem d5_39 : decode method_8_code 39 = .ok (.iload_n 3, 1) := by decide +kernel
theorem d5_40 : decode method_8_code 40 = .ok (.iload_n 1, 1) := by decide +kernel
theorem d5_41 : decode method_8_code 41 = .ok (.invokestatic 27, 3) := by decide +kernel
theorem d5_44 : decode method_8_code 44 = .ok (.ifCond .eq 6, 3) := by decide +kernel
theorem d5_47 : decode method_8_code 47 = .ok (.iinc 3 (-1), 3) := by decide +kernel
theorem d5_50 : decode method_8_code 50 = .ok (.aload_n 0, 1) := by decide +kernel
theorem d5_51 : decode method_8_code 51 = .ok (.iload_n 3, 1) := by decide +kernel
theorem d5_52 : decode method_8_code 52 = .ok (.iload_n 1, 1) := by decide +kernel
theorem d5_53 : decode method_8_code 53 = .ok (.invokestatic 27, 3) := by decide +kernel
theorem d5_56 : decode method_8_code 56 = .ok (.ifCond .eq 6, 3) := by decide +kernel
theorem d5_59 : decode method_8_code 59 = .ok (.iinc 3 (-1), 3) := by decide +kernel
theorem d5_62 : decode method_8_code 62 = .ok (.aload_n 0, 1) := by decide +kernel
theorem d5_63 : decode method_8_code 63 = .ok (.iload_n 3, 1) := by decide +kernel
theorem d5_64 : decode method_8_code 64 = .ok (.iload_n 1, 1) := by decide +kernel
theorem d5_65 : decode method_8_code 65 = .ok (.invokestatic 27, 3) := by decide +kernel
theorem d5_68 : decode method_8_code 68 = .ok (.ifCond .eq 6, 3) := by decide +kernel
theorem d5_71 : decode method_8_code 71 = .ok (.iinc 3 (-1), 3) := by decide +kernel
theorem d5_74 : decode method_8_code 74 = .ok (.iload_n 3, 1) := by decide +kernel
theorem d5_75 : decode method_8_code 75 = .ok (.ireturn, 1) := by decide +kernel
theorem pn_5 : plainName "com/example/facet/facet/xml/MarkupScannerPlainUntilPinLaw" = true := by first | (simp [plainName, overriddenIn]; done) | decide +kernel
def f_trim (fr en : Int32) (B : Int32 → Int32) : Int32 := (if (f_closes en fr B) = (0 : Int32) then en else (if (f_closes (en + (-1 : Int32)) fr B) = (0 : Int32) then (en + (-1 : Int32)) else (if (f_closes ((en + (-1 : Int32)) + (-1 : Int32)) fr B) = (0 : Int32) then ((en + (-1 : Int32)) + (-1 : Int32)) else (if (f_closes (((en + (-1 : Int32)) + (-1 : Int32)) + (-1 : Int32)) fr B) = (0 : Int32) then (((en + (-1 : Int32)) + (-1 : Int32)) + (-1 : Int32)) else (if (f_closes ((((en + (-1 : Int32)) + (-1 : Int32)) + (-1 : Int32)) + (-1 : Int32)) fr B) = (0 : Int32) then ((((en + (-1 : Int32)) + (-1 : Int32)) + (-1 : Int32)) + (-1 : Int32)) else (if (f_closes (((((en + (-1 : Int32)) + (-1 : Int32)) + (-1 : Int32)) + (-1 : Int32)) + (-1 : Int32)) fr B) = (0 : Int32) then (((((en + (-1 : Int32)) + (-1 : Int32)) + (-1 : Int32)) + (-1 : Int32)) + (-1 : Int32)) else ((((((en + (-1 : Int32)) + (-1 : Int32)) + (-1 : Int32)) + (-1 : Int32)) + (-1 : Int32)) + (-1 : Int32))))))))
theorem ef_rm5 (m : MethodId) (x0 : Addr) (x1 : Int32) (x2 : Int32) : entryFrame m #[(.ref x0), (.int x1), (.int x2)] 4 = mkF m 0 #[.val (.ref x0), .val (.int x1), .val (.int x2), .unset] [] := by first | (simp [entryFrame, mkF, argsToLocals, Value.category]; done) | rfl
set_option maxRecDepth 65536 in
set_option maxHeartbeats 40000000 in
theorem rm5 (l : Launch) (Z : State) (a0 : Array Value) (hw : ∀ d ∈ tables_1, d.before a0 Z = true) (ws : List Jvm.Cond) (a : Addr) (fr : Int32) (en : Int32) (B : Int32 → Int32) (h0 : Heap) (hB : BA Z h0 a .byte (6 : Int32) B) (hf : 0 ≤ fr.toInt) (hE : en.toInt ≤ 6) :
    MetFree l (⟨"com/example/facet/facet/xml/MarkupScannerPlainUntilPinLaw", "trim", "([BII)I"⟩ : MethodName) (head1 (Jvm.Cond.code (⟨"com/example/facet/facet/xml/MarkupScannerPlainUntilPinLaw", "trim", "([BII)I"⟩ : MethodName) method_8_code 4 (some .int) :: ws) ({ frames := 1, cells := 0, slots := 0, locals := 14 } : Room)) (fun aQ U => aQ = #[(.ref a), (.int fr), (.int en)] ∧ Z.Warmed39 U.vm ∧ U.heap = h0) (fun _ _ _ _ _ => True) (fun _ U o U' => ∃ vQ LQ, o = .returned vQ ∧ PQ (some (.int (f_trim fr en B))) h0 vQ U'.heap LQ ∧ FrameEnd U o U' LQ ({ frames := 1, cells := 0, slots := 0, locals := 14 } : Room).cells ({ frames := 1, cells := 0, slots := 0, locals := 14 } : Room).slots) := by
  refine MetFree.of_bodySF (plainFor_of_name pn_5) hisR ?_
  intro p e s m args below meth c s₁ Bd hml0 hP hK
  obtain ⟨rfl, hZ, hh⟩ := hP
  have hx := Bd.exec
  have hby := Bd.bytes
  have hml : c.maxLocals = 4 := hml0
  have hown : s.vm.findClass "com/example/facet/facet/xml/MarkupScannerPlainUntilPinLaw" = some m.cls := findClass_of_methodNamed Bd.named
  have hnm := (name_of_methodNamed Bd.named Bd.method).1
  have X0 : Stand p l e ({ frames := 1, cells := 0, slots := 0, locals := 14 } : Room) s m #[(.ref a), (.int fr), (.int en)] below meth c s₁ [] 0 0 := Stand.of_body Bd
  have e0 : s₁.heap = h0 := by rw [← hh, Bd.state]; rfl
  refine Gl.out ?_
  refine Gl.go ?_ (fun t k => castTop (ef_rm5 m a fr en) k)
  show Gl _ _ _ _ (s₁.setTop (mkF m 0 #[.val (.ref a), .val (.int fr), .val (.int en), .unset] []))
  refine Gl.go ?_ (fun t k => XS.iloadN X0.here hx rfl (hb hby d5_0) rfl k)
  show Gl _ _ _ _ (s₁.setTop (mkF m 1 #[.val (.ref a), .val (.int fr), .val (.int en), .unset] [(.int en)]))
  refine Gl.go ?_ (fun t k => XS.istoreN X0.here hx rfl (hb hby d5_1) rfl (l' := #[.val (.ref a), .val (.int fr), .val (.int en), .val (.int en)]) rfl k)
  show Gl _ _ _ _ (s₁.setTop (mkF m 2 #[.val (.ref a), .val (.int fr), .val (.int en), .val (.int en)] []))
  refine Gl.go ?_ (fun t k => XS.aloadN X0.here hx rfl (hb hby d5_2) rfl rfl k)
  show Gl _ _ _ _ (s₁.setTop (mkF m 3 #[.val (.ref a), .val (.int fr), .val (.int en), .val (.int en)] [(.ref a)]))
  refine Gl.go ?_ (fun t k => XS.iloadN X0.here hx rfl (hb hby d5_3) rfl k)
  show Gl _ _ _ _ (s₁.setTop (mkF m 4 #[.val (.ref a), .val (.int fr), .val (.int en), .val (.int en)] [(.int en), (.ref a)]))
  refine Gl.go ?_ (fun t k => XS.iloadN X0.here hx rfl (hb hby d5_4) rfl k)
  show Gl _ _ _ _ (s₁.setTop (mkF m 5 #[.val (.ref a), .val (.int fr), .val (.int en), .val (.int en)] [(.int fr), (.int en), (.ref a)]))
  obtain ⟨_, _, ⟨T24, L24, k24, n24⟩, -, X24, ⟨Lc24, hQ24, l24, y24, z24⟩, st24⟩ := Jvm.LawKit.callS X0 hx (y := (⟨"com/example/facet/facet/xml/MarkupScannerPlainUntilPinLaw", "closes", "([BII)Z"⟩ : MethodName)) hown (mvT hZ (hw _ (List.mem_of_getElem? (i := 18) rfl))) (mvT hZ (hw _ (List.mem_of_getElem? (i := 19) rfl))) (mvT hZ (hw _ (List.mem_of_getElem? (i := 3) rfl))) (mvT hZ (hw _ (List.mem_of_getElem? (i := 20) rfl))) (by decide) (backOf (W := 0) (rm6 l Z a0 hw [] a en fr B h0 hB hf hE) hZ (hw _ (List.mem_of_getElem? (i := 20) rfl)) (hw _ (List.mem_of_getElem? (i := 3) rfl)) (by decide) (by decide)) (g := (mkF m 5 #[.val (.ref a), .val (.int fr), .val (.int en), .val (.int en)] [(.int fr), (.int en), (.ref a)])) rfl (by rw [hml]; rfl) (argsL := [(.ref a), (.int en), (.int fr)]) (rest := []) (lenOf pd_0 rfl) rfl (by show 2 * 0 + _ ≤ _; exact Nat.le_of_eq rfl) (hb hby d5_5) (fun _ _ => ⟨rfl, e0, (by decide : 0 + 0 ≤ _), (by decide : 0 + 0 ≤ _)⟩)
  dsimp only [Pt.U, Pt.locs, Pt.cells, Pt.slots] at X24 l24 y24 z24 st24 hQ24
  subst l24 y24 z24
  obtain ⟨rfl, rfl, e24⟩ := hQ24
  refine Gl.go ?_ st24
  show Gl _ _ _ _ (T24.setTop (mkF m 8 #[.val (.ref a), .val (.int fr), .val (.int en), .val (.int en)] [(.int (f_closes en fr B))]))
  by_cases hc25 : (f_closes en fr B) = (0 : Int32)
  · refine Gl.go ?_ (fun t k => XS.ifYes X24.here hx rfl (pc0 := 8) (pc' := 14) rfl (hb hby d5_8) rfl ((if0 _ _).trans (teq hc25).1) (by decide) (by decide) k)
    show Gl _ _ _ _ (T24.setTop (mkF m 14 #[.val (.ref a), .val (.int fr), .val (.int en), .val (.int en)] []))
    refine Gl.go ?_ (fun t k => XS.aloadN X24.here hx rfl (hb hby d5_14) rfl rfl k)
    show Gl _ _ _ _ (T24.setTop (mkF m 15 #[.val (.ref a), .val (.int fr), .val (.int en), .val (.int en)] [(.ref a)]))
    refine Gl.go ?_ (fun t k => XS.iloadN X24.here hx rfl (hb hby d5_15) rfl k)
    show Gl _ _ _ _ (T24.setTop (mkF m 16 #[.val (.ref a), .val (.int fr), .val (.int en), .val (.int en)] [(.int en), (.ref a)]))
    refine Gl.go ?_ (fun t k => XS.iloadN X24.here hx rfl (hb hby d5_16) rfl k)
    show Gl _ _ _ _ (T24.setTop (mkF m 17 #[.val (.ref a), .val (.int fr), .val (.int en), .val (.int en)] [(.int fr), (.int en), (.ref a)]))
    obtain ⟨_, _, ⟨T26, L26, k26, n26⟩, -, X26, ⟨Lc26, hQ26, l26, y26, z26⟩, st26⟩ := Jvm.LawKit.callS X24 hx (y := (⟨"com/example/facet/facet/xml/MarkupScannerPlainUntilPinLaw", "closes", "([BII)Z"⟩ : MethodName)) hown (mvT hZ (hw _ (List.mem_of_getElem? (i := 18) rfl))) (mvT hZ (hw _ (List.mem_of_getElem? (i := 19) rfl))) (mvT hZ (hw _ (List.mem_of_getElem? (i := 3) rfl))) (mvT hZ (hw _ (List.mem_of_getElem? (i := 20) rfl))) (by decide) (backOf (W := 0) (rm6 l Z a0 hw [] a en fr B h0 hB hf hE) hZ (hw _ (List.mem_of_getElem? (i := 20) rfl)) (hw _ (List.mem_of_getElem? (i := 3) rfl)) (by decide) (by decide)) (g := (mkF m 17 #[.val (.ref a), .val (.int fr), .val (.int en), .val (.int en)] [(.int fr), (.int en), (.ref a)])) rfl (by rw [hml]; rfl) (argsL := [(.ref a), (.int en), (.int fr)]) (rest := []) (lenOf pd_0 rfl) rfl (by show 2 * 0 + _ ≤ _; exact Nat.le_of_eq rfl) (hb hby d5_17) (fun _ _ => ⟨rfl, e24, (by decide : 0 + 0 ≤ _), (by decide : 0 + 0 ≤ _)⟩)
    dsimp only [Pt.U, Pt.locs, Pt.cells, Pt.slots] at X26 l26 y26 z26 st26 hQ26
    subst l26 y26 z26
    obtain ⟨rfl, rfl, e26⟩ := hQ26
    refine Gl.go ?_ st26
    show Gl _ _ _ _ (T26.setTop (mkF m 20 #[.val (.ref a), .val (.int fr), .val (.int en), .val (.int en)] [(.int (f_closes en fr B))]))
    refine Gl.go ?_ (fun t k => XS.ifYes X26.here hx rfl (pc0 := 20) (pc' := 26) rfl (hb hby d5_20) rfl ((if0 _ _).trans (teq hc25).1) (by decide) (by decide) k)
    show Gl _ _ _ _ (T26.setTop (mkF m 26 #[.val (.ref a), .val (.int fr), .val (.int en), .val (.int en)] []))
    refine Gl.go ?_ (fun t k => XS.aloadN X26.here hx rfl (hb hby d5_26) rfl rfl k)
    show Gl _ _ _ _ (T26.setTop (mkF m 27 #[.val (.ref a), .val (.int fr), .val (.int en), .val (.int en)] [(.ref a)]))
    refine Gl.go ?_ (fun t k => XS.iloadN X26.here hx rfl (hb hby d5_27) rfl k)
    show Gl _ _ _ _ (T26.setTop (mkF m 28 #[.val (.ref a), .val (.int fr), .val (.int en), .val (.int en)] [(.int en), (.ref a)]))
    refine Gl.go ?_ (fun t k => XS.iloadN X26.here hx rfl (hb hby d5_28) rfl k)
    show Gl _ _ _ _ (T26.setTop (mkF m 29 #[.val (.ref a), .val (.int fr), .val (.int en), .val (.int en)] [(.int fr), (.int en), (.ref a)]))
    obtain ⟨_, _, ⟨T27, L27, k27, n27⟩, -, X27, ⟨Lc27, hQ27, l27, y27, z27⟩, st27⟩ := Jvm.LawKit.callS X26 hx (y := (⟨"com/example/facet/facet/xml/MarkupScannerPlainUntilPinLaw", "closes", "([BII)Z"⟩ : MethodName)) hown (mvT hZ (hw _ (List.mem_of_getElem? (i := 18) rfl))) (mvT hZ (hw _ (List.mem_of_getElem? (i := 19) rfl))) (mvT hZ (hw _ (List.mem_of_getElem? (i := 3) rfl))) (mvT hZ (hw _ (List.mem_of_getElem? (i := 20) rfl))) (by decide) (backOf (W := 0) (rm6 l Z a0 hw [] a en fr B h0 hB hf hE) hZ (hw _ (List.mem_of_getElem? (i := 20) rfl)) (hw _ (List.mem_of_getElem? (i := 3) rfl)) (by decide) (by decide)) (g := (mkF m 29 #[.val (.ref a), .val (.int fr), .val (.int en), .val (.int en)] [(.int fr), (.int en), (.ref a)])) rfl (by rw [hml]; rfl) (argsL := [(.ref a), (.int en), (.int fr)]) (rest := []) (lenOf pd_0 rfl) rfl (by show 2 * 0 + _ ≤ _; exact Nat.le_of_eq rfl) (hb hby d5_29) (fun _ _ => ⟨rfl, e26, (by decide : 0 + 0 ≤ _), (by decide : 0 + 0 ≤ _)⟩)
    dsimp only [Pt.U, Pt.locs, Pt.cells, Pt.slots] at X27 l27 y27 z27 st27 hQ27
    subst l27 y27 z27
    obtain ⟨rfl, rfl, e27⟩ := hQ27
    refine Gl.go ?_ st27
    show Gl _ _ _ _ (T27.setTop (mkF m 32 #[.val (.ref a), .val (.int fr), .val (.int en), .val (.int en)] [(.int (f_closes en fr B))]))
    refine Gl.go ?_ (fun t k => XS.ifYes X27.here hx rfl (pc0 := 32) (pc' := 38) rfl (hb hby d5_32) rfl ((if0 _ _).trans (teq hc25).1) (by decide) (by decide) k)
    show Gl _ _ _ _ (T27.setTop (mkF m 38 #[.val (.ref a), .val (.int fr), .val (.int en), .val (.int en)] []))
    refine Gl.go ?_ (fun t k => XS.aloadN X27.here hx rfl (hb hby d5_38) rfl rfl k)
    show Gl _ _ _ _ (T27.setTop (mkF m 39 #[.val (.ref a), .val (.int fr), .val (.int en), .val (.int en)] [(.ref a)]))
    refine Gl.go ?_ (fun t k => XS.iloadN X27.here hx rfl (hb hby d5_39) rfl k)
    show Gl _ _ _ _ (T27.setTop (mkF m 40 #[.val (.ref a), .val (.int fr), .val (.int en), .val (.int en)] [(.int en), (.ref a)]))
    refine Gl.go ?_ (fun t k => XS.iloadN X27.here hx rfl (hb hby d5_40) rfl k)
    show Gl _ _ _ _ (T27.setTop (mkF m 41 #[.val (.ref a), .val (.int fr), .val (.int en), .val (.int en)] [(.int fr), (.int en), (.ref a)]))
    obtain ⟨_, _, ⟨T28, L28, k28, n28⟩, -, X28, ⟨Lc28, hQ28, l28, y28, z28⟩, st28⟩ := Jvm.LawKit.callS X27 hx (y := (⟨"com/example/facet/facet/xml/MarkupScannerPlainUntilPinLaw", "closes", "([BII)Z"⟩ : MethodName)) hown (mvT hZ (hw _ (List.mem_of_getElem? (i := 18) rfl))) (mvT hZ (hw _ (List.mem_of_getElem? (i := 19) rfl))) (mvT hZ (hw _ (List.mem_of_getElem? (i := 3) rfl))) (mvT hZ (hw _ (List.mem_of_getElem? (i := 20) rfl))) (by decide) (backOf (W := 0) (rm6 l Z a0 hw [] a en fr B h0 hB hf hE) hZ (hw _ (List.mem_of_getElem? (i := 20) rfl)) (hw _ (List.mem_of_getElem? (i := 3) rfl)) (by decide) (by decide)) (g := (mkF m 41 #[.val (.ref a), .val (.int fr), .val (.int en), .val (.int en)] [(.int fr), (.int en), (.ref a)])) rfl (by rw [hml]; rfl) (argsL := [(.ref a), (.int en), (.int fr)]) (rest := []) (lenOf pd_0 rfl) rfl (by show 2 * 0 + _ ≤ _; exact Nat.le_of_eq rfl) (hb hby d5_41) (fun _ _ => ⟨rfl, e27, (by decide : 0 + 0 ≤ _), (by decide : 0 + 0 ≤ _)⟩)
    dsimp only [Pt.U, Pt.locs, Pt.cells, Pt.slots] at X28 l28 y28 z28 st28 hQ28
    subst l28 y28 z28
    obtain ⟨rfl, rfl, e28⟩ := hQ28
    refine Gl.go ?_ st28
    show Gl _ _ _ _ (T28.setTop (mkF m 44 #[.val (.ref a), .val (.int fr), .val (.int en), .val (.int en)] [(.int (f_closes en fr B))]))
    refine Gl.go ?_ (fun t k => XS.ifYes X28.here hx rfl (pc0 := 44) (pc' := 50) rfl (hb hby d5_44) rfl ((if0 _ _).trans (teq hc25).1) (by decide) (by decide) k)
    show Gl _ _ _ _ (T28.setTop (mkF m 50 #[.val (.ref a), .val (.int fr), .val (.int en), .val (.int en)] []))
    refine Gl.go ?_ (fun t k => XS.aloadN X28.here hx rfl (hb hby d5_50) rfl rfl k)
    show Gl _ _ _ _ (T28.setTop (mkF m 51 #[.val (.ref a), .val (.int fr), .val (.int en), .val (.int en)] [(.ref a)]))
    refine Gl.go ?_ (fun t k => XS.iloadN X28.here hx rfl (hb hby d5_51) rfl k)
    show Gl _ _ _ _ (T28.setTop (mkF m 52 #[.val (.ref a), .val (.int fr), .val (.int en), .val (.int en)] [(.int en), (.ref a)]))
    refine Gl.go ?_ (fun t k => XS.iloadN X28.here hx rfl (hb hby d5_52) rfl k)
    show Gl _ _ _ _ (T28.setTop (mkF m 53 #[.val (.ref a), .val (.int fr), .val (.int en), .val (.int en)] [(.int fr), (.int en), (.ref a)]))
    obtain ⟨_, _, ⟨T29, L29, k29, n29⟩, -, X29, ⟨Lc29, hQ29, l29, y29, z29⟩, st29⟩ := Jvm.LawKit.callS X28 hx (y := (⟨"com/example/facet/facet/xml/MarkupScannerPlainUntilPinLaw", "closes", "([BII)Z"⟩ : MethodName)) hown (mvT hZ (hw _ (List.mem_of_getElem? (i := 18) rfl))) (mvT hZ (hw _ (List.mem_of_getElem? (i := 19) rfl))) (mvT hZ (hw _ (List.mem_of_getElem? (i := 3) rfl))) (mvT hZ (hw _ (List.mem_of_getElem? (i := 20) rfl))) (by decide) (backOf (W := 0) (rm6 l Z a0 hw [] a en fr B h0 hB hf hE) hZ (hw _ (List.mem_of_getElem? (i := 20) rfl)) (hw _ (List.mem_of_getElem? (i := 3) rfl)) (by decide) (by decide)) (g := (mkF m 53 #[.val (.ref a), .val (.int fr), .val (.int en), .val (.int en)] [(.int fr), (.int en), (.ref a)])) rfl (by rw [hml]; rfl) (argsL := [(.ref a), (.int en), (.int fr)]) (rest := []) (lenOf pd_0 rfl) rfl (by show 2 * 0 + _ ≤ _; exact Nat.le_of_eq rfl) (hb hby d5_53) (fun _ _ => ⟨rfl, e28, (by decide : 0 + 0 ≤ _), (by decide : 0 + 0 ≤ _)⟩)
    dsimp only [Pt.U, Pt.locs, Pt.cells, Pt.slots] at X29 l29 y29 z29 st29 hQ29
    subst l29 y29 z29
    obtain ⟨rfl, rfl, e29⟩ := hQ29
    refine Gl.go ?_ st29
    show Gl _ _ _ _ (T29.setTop (mkF m 56 #[.val (.ref a), .val (.int fr), .val (.int en), .val (.int en)] [(.int (f_closes en fr B))]))
    refine Gl.go ?_ (fun t k => XS.ifYes X29.here hx rfl (pc0 := 56) (pc' := 62) rfl (hb hby d5_56) rfl ((if0 _ _).trans (teq hc25).1) (by decide) (by decide) k)
    show Gl _ _ _ _ (T29.setTop (mkF m 62 #[.val (.ref a), .val (.int fr), .val (.int en), .val (.int en)] []))
    refine Gl.go ?_ (fun t k => XS.aloadN X29.here hx rfl (hb hby d5_62) rfl rfl k)
    show Gl _ _ _ _ (T29.setTop (mkF m 63 #[.val (.ref a), .val (.int fr), .val (.int en), .val (.int en)] [(.ref a)]))
    refine Gl.go ?_ (fun t k => XS.iloadN X29.here hx rfl (hb hby d5_63) rfl k)
    show Gl _ _ _ _ (T29.setTop (mkF m 64 #[.val (.ref a), .val (.int fr), .val (.int en), .val (.int en)] [(.int en), (.ref a)]))
    refine Gl.go ?_ (fun t k => XS.iloadN X29.here hx rfl (hb hby d5_64) rfl k)
    show Gl _ _ _ _ (T29.setTop (mkF m 65 #[.val (.ref a), .val (.int fr), .val (.int en), .val (.int en)] [(.int fr), (.int en), (.ref a)]))
    obtain ⟨_, _, ⟨T30, L30, k30, n30⟩, -, X30, ⟨Lc30, hQ30, l30, y30, z30⟩, st30⟩ := Jvm.LawKit.callS X29 hx (y := (⟨"com/example/facet/facet/xml/MarkupScannerPlainUntilPinLaw", "closes", "([BII)Z"⟩ : MethodName)) hown (mvT hZ (hw _ (List.mem_of_getElem? (i := 18) rfl))) (mvT hZ (hw _ (List.mem_of_getElem? (i := 19) rfl))) (mvT hZ (hw _ (List.mem_of_getElem? (i := 3) rfl))) (mvT hZ (hw _ (List.mem_of_getElem? (i := 20) rfl))) (by decide) (backOf (W := 0) (rm6 l Z a0 hw [] a en fr B h0 hB hf hE) hZ (hw _ (List.mem_of_getElem? (i := 20) rfl)) (hw _ (List.mem_of_getElem? (i := 3) rfl)) (by decide) (by decide)) (g := (mkF m 65 #[.val (.ref a), .val (.int fr), .val (.int en), .val (.int en)] [(.int fr), (.int en), (.ref a)])) rfl (by rw [hml]; rfl) (argsL := [(.ref a), (.int en), (.int fr)]) (rest := []) (lenOf pd_0 rfl) rfl (by show 2 * 0 + _ ≤ _; exact Nat.le_of_eq rfl) (hb hby d5_65) (fun _ _ => ⟨rfl, e29, (by decide : 0 + 0 ≤ _), (by decide : 0 + 0 ≤ _)⟩)
    dsimp only [Pt.U, Pt.locs, Pt.cells, Pt.slots] at X30 l30 y30 z30 st30 hQ30
    subst l30 y30 z30
    obtain ⟨rfl, rfl, e30⟩ := hQ30
    refine Gl.go ?_ st30
    show Gl _ _ _ _ (T30.setTop (mkF m 68 #[.val (.ref a), .val (.int fr), .val (.int en), .val (.int en)] [(.int (f_closes en fr B))]))
    refine Gl.go ?_ (fun t k => XS.ifYes X30.here hx rfl (pc0 := 68) (pc' := 74) rfl (hb hby d5_68) rfl ((if0 _ _).trans (teq hc25).1) (by decide) (by decide) k)
    show Gl _ _ _ _ (T30.setTop (mkF m 74 #[.val (.ref a), .val (.int fr), .val (.int en), .val (.int en)] []))
    refine Gl.go ?_ (fun t k => XS.iloadN X30.here hx rfl (hb hby d5_74) rfl k)
    show Gl _ _ _ _ (T30.setTop (mkF m 75 #[.val (.ref a), .val (.int fr), .val (.int en), .val (.int en)] [(.int en)]))
    obtain ⟨fs, hr, hrun, hended, hW, hsame⟩ := X30.leave (v := some (.int en)) (fun h => by rw [Bd.returns] at h; cases h) (BodyLoose.notSynchronized Bd)
    exact Gl.mk ⟨_, _, retI X30 hx Bd.returns (hb hby d5_75) hr, hrun, hended, _, _, rfl, ⟨congrArg (fun z => some (Value.int z)) ((if_pos hc25).trans (rfl)).symm, rfl, e30⟩, ⟨_, rfl⟩, hW, hsame.mono (by decide) (by decide)⟩
  · refine Gl.go ?_ (fun t k => XS.ifNo X24.here hx rfl (hb hby d5_8) rfl ((if0 _ _).trans (feq hc25).1) k)
    show Gl _ _ _ _ (T24.setTop (mkF m 11 #[.val (.ref a), .val (.int fr), .val (.int en), .val (.int en)] []))
    refine Gl.go ?_ (fun t k => XS.iinc X24.here hx rfl (hb hby d5_11) rfl (l' := #[.val (.ref a), .val (.int fr), .val (.int en), .val (.int (en + (-1 : Int32)))]) rfl k)
    show Gl _ _ _ _ (T24.setTop (mkF m 14 #[.val (.ref a), .val (.int fr), .val (.int en), .val (.int (en + (-1 : Int32)))] []))
    have hr31 : ((en + (-1 : Int32))).toInt ≤ 6 := own_down hf hE (own_clz hc25)
    refine Gl.go ?_ (fun t k => XS.aloadN X24.here hx rfl (hb hby d5_14) rfl rfl k)
    show Gl _ _ _ _ (T24.setTop (mkF m 15 #[.val (.ref a), .val (.int fr), .val (.int en), .val (.int (en + (-1 : Int32)))] [(.ref a)]))
    refine Gl.go ?_ (fun t k => XS.iloadN X24.here hx rfl (hb hby d5_15) rfl k)
    show Gl _ _ _ _ (T24.setTop (mkF m 16 #[.val (.ref a), .val (.int fr), .val (.int en), .val (.int (en + (-1 : Int32)))] [(.int (en + (-1 : Int32))), (.ref a)]))
    refine Gl.go ?_ (fun t k => XS.iloadN X24.here hx rfl (hb hby d5_16) rfl k)
    show Gl _ _ _ _ (T24.setTop (mkF m 17 #[.val (.ref a), .val (.int fr), .val (.int en), .val (.int (en + (-1 : Int32)))] [(.int fr), (.int (en + (-1 : Int32))), (.ref a)]))
    obtain ⟨_, _, ⟨T32, L32, k32, n32⟩, -, X32, ⟨Lc32, hQ32, l32, y32, z32⟩, st32⟩ := Jvm.LawKit.callS X24 hx (y := (⟨"com/example/facet/facet/xml/MarkupScannerPlainUntilPinLaw", "closes", "([BII)Z"⟩ : MethodName)) hown (mvT hZ (hw _ (List.mem_of_getElem? (i := 18) rfl))) (mvT hZ (hw _ (List.mem_of_getElem? (i := 19) rfl))) (mvT hZ (hw _ (List.mem_of_getElem? (i := 3) rfl))) (mvT hZ (hw _ (List.mem_of_getElem? (i := 20) rfl))) (by decide) (backOf (W := 0) (rm6 l Z a0 hw [] a (en + (-1 : Int32)) fr B h0 hB hf hr31) hZ (hw _ (List.mem_of_getElem? (i := 20) rfl)) (hw _ (List.mem_of_getElem? (i := 3) rfl)) (by decide) (by decide)) (g := (mkF m 17 #[.val (.ref a), .val (.int fr), .val (.int en), .val (.int (en + (-1 : Int32)))] [(.int fr), (.int (en + (-1 : Int32))), (.ref a)])) rfl (by rw [hml]; rfl) (argsL := [(.ref a), (.int (en + (-1 : Int32))), (.int fr)]) (rest := []) (lenOf pd_0 rfl) rfl (by show 2 * 0 + _ ≤ _; exact Nat.le_of_eq rfl) (hb hby d5_17) (fun _ _ => ⟨rfl, e24, (by decide : 0 + 0 ≤ _), (by decide : 0 + 0 ≤ _)⟩)
    dsimp only [Pt.U, Pt.locs, Pt.cells, Pt.slots] at X32 l32 y32 z32 st32 hQ32
    subst l32 y32 z32
    obtain ⟨rfl, rfl, e32⟩ := hQ32
    refine Gl.go ?_ st32
    show Gl _ _ _ _ (T32.setTop (mkF m 20 #[.val (.ref a), .val (.int fr), .val (.int en), .val (.int (en + (-1 : Int32)))] [(.int (f_closes (en + (-1 : Int32)) fr B))]))
    by_cases hc33 : (f_closes (en + (-1 : Int32)) fr B) = (0 : Int32)
    · refine Gl.go ?_ (fun t k => XS.ifYes X32.here hx rfl (pc0 := 20) (pc' := 26) rfl (hb hby d5_20) rfl ((if0 _ _).trans (teq hc33).1) (by decide) (by decide) k)
      show Gl _ _ _ _ (T32.setTop (mkF m 26 #[.val (.ref a), .val (.int fr), .val (.int en), .val (.int (en + (-1 : Int32)))] []))
      refine Gl.go ?_ (fun t k => XS.aloadN X32.here hx rfl (hb hby d5_26) rfl rfl k)
      show Gl _ _ _ _ (T32.setTop (mkF m 27 #[.val (.ref a), .val (.int fr), .val (.int en), .val (.int (en + (-1 : Int32)))] [(.ref a)]))
      refine Gl.go ?_ (fun t k => XS.iloadN X32.here hx rfl (hb hby d5_27) rfl k)
      show Gl _ _ _ _ (T32.setTop (mkF m 28 #[.val (.ref a), .val (.int fr), .val (.int en), .val (.int (en + (-1 : Int32)))] [(.int (en + (-1 : Int32))), (.ref a)]))
      refine Gl.go ?_ (fun t k => XS.iloadN X32.here hx rfl (hb hby d5_28) rfl k)
      show Gl _ _ _ _ (T32.setTop (mkF m 29 #[.val (.ref a), .val (.int fr), .val (.int en), .val (.int (en + (-1 : Int32)))] [(.int fr), (.int (en + (-1 : Int32))), (.ref a)]))
      obtain ⟨_, _, ⟨T34, L34, k34, n34⟩, -, X34, ⟨Lc34, hQ34, l34, y34, z34⟩, st34⟩ := Jvm.LawKit.callS X32 hx (y := (⟨"com/example/facet/facet/xml/MarkupScannerPlainUntilPinLaw", "closes", "([BII)Z"⟩ : MethodName)) hown (mvT hZ (hw _ (List.mem_of_getElem? (i := 18) rfl))) (mvT hZ (hw _ (List.mem_of_getElem? (i := 19) rfl))) (mvT hZ (hw _ (List.mem_of_getElem? (i := 3) rfl))) (mvT hZ (hw _ (List.mem_of_getElem? (i := 20) rfl))) (by decide) (backOf (W := 0) (rm6 l Z a0 hw [] a (en + (-1 : Int32)) fr B h0 hB hf hr31) hZ (hw _ (List.mem_of_getElem? (i := 20) rfl)) (hw _ (List.mem_of_getElem? (i := 3) rfl)) (by decide) (by decide)) (g := (mkF m 29 #[.val (.ref a), .val (.int fr), .val (.int en), .val (.int (en + (-1 : Int32)))] [(.int fr), (.int (en + (-1 : Int32))), (.ref a)])) rfl (by rw [hml]; rfl) (argsL := [(.ref a), (.int (en + (-1 : Int32))), (.int fr)]) (rest := []) (lenOf pd_0 rfl) rfl (by show 2 * 0 + _ ≤ _; exact Nat.le_of_eq rfl) (hb hby d5_29) (fun _ _ => ⟨rfl, e32, (by decide : 0 + 0 ≤ _), (by decide : 0 + 0 ≤ _)⟩)
      dsimp only [Pt.U, Pt.locs, Pt.cells, Pt.slots] at X34 l34 y34 z34 st34 hQ34
      subst l34 y34 z34
      obtain ⟨rfl, rfl, e34⟩ := hQ34
      refine Gl.go ?_ st34
      show Gl _ _ _ _ (T34.setTop (mkF m 32 #[.val (.ref a), .val (.int fr), .val (.int en), .val (.int (en + (-1 : Int32)))] [(.int (f_closes (en + (-1 : Int32)) fr B))]))
      refine Gl.go ?_ (fun t k => XS.ifYes X34.here hx rfl (pc0 := 32) (pc' := 38) rfl (hb hby d5_32) rfl ((if0 _ _).trans (teq hc33).1) (by decide) (by decide) k)
      show Gl _ _ _ _ (T34.setTop (mkF m 38 #[.val (.ref a), .val (.int fr), .val (.int en), .val (.int (en + (-1 : Int32)))] []))
      refine Gl.go ?_ (fun t k => XS.aloadN X34.here hx rfl (hb hby d5_38) rfl rfl k)
      show Gl _ _ _ _ (T34.setTop (mkF m 39 #[.val (.ref a), .val (.int fr), .val (.int en), .val (.int (en + (-1 : Int32)))] [(.ref a)]))
      refine Gl.go ?_ (fun t k => XS.iloadN X34.here hx rfl (hb hby d5_39) rfl k)
      show Gl _ _ _ _ (T34.setTop (mkF m 40 #[.val (.ref a), .val (.int fr), .val (.int en), .val (.int (en + (-1 : Int32)))] [(.int (en + (-1 : Int32))), (.ref a)]))
      refine Gl.go ?_ (fun t k => XS.iloadN X34.here hx rfl (hb hby d5_40) rfl k)
      show Gl _ _ _ _ (T34.setTop (mkF m 41 #[.val (.ref a), .val (.int fr), .val (.int en), .val (.int (en + (-1 : Int32)))] [(.int fr), (.int (en + (-1 : Int32))), (.ref a)]))
      obtain ⟨_, _, ⟨T35, L35, k35, n35⟩, -, X35, ⟨Lc35, hQ35, l35, y35, z35⟩, st35⟩ := Jvm.LawKit.callS X34 hx (y := (⟨"com/example/facet/facet/xml/MarkupScannerPlainUntilPinLaw", "closes", "([BII)Z"⟩ : MethodName)) hown (mvT hZ (hw _ (List.mem_of_getElem? (i := 18) rfl))) (mvT hZ (hw _ (List.mem_of_getElem? (i := 19) rfl))) (mvT hZ (hw _ (List.mem_of_getElem? (i := 3) rfl))) (mvT hZ (hw _ (List.mem_of_getElem? (i := 20) rfl))) (by decide) (backOf (W := 0) (rm6 l Z a0 hw [] a (en + (-1 : Int32)) fr B h0 hB hf hr31) hZ (hw _ (List.mem_of_getElem? (i := 20) rfl)) (hw _ (List.mem_of_getElem? (i := 3) rfl)) (by decide) (by decide)) (g := (mkF m 41 #[.val (.ref a), .val (.int fr), .val (.int en), .val (.int (en + (-1 : Int32)))] [(.int fr), (.int (en + (-1 : Int32))), (.ref a)])) rfl (by rw [hml]; rfl) (argsL := [(.ref a), (.int (en + (-1 : Int32))), (.int fr)]) (rest := []) (lenOf pd_0 rfl) rfl (by show 2 * 0 + _ ≤ _; exact Nat.le_of_eq rfl) (hb hby d5_41) (fun _ _ => ⟨rfl, e34, (by decide : 0 + 0 ≤ _), (by decide : 0 + 0 ≤ _)⟩)
      dsimp only [Pt.U, Pt.locs, Pt.cells, Pt.slots] at X35 l35 y35 z35 st35 hQ35
      subst l35 y35 z35
      obtain ⟨rfl, rfl, e35⟩ := hQ35
      refine Gl.go ?_ st35
      show Gl _ _ _ _ (T35.setTop (mkF m 44 #[.val (.ref a), .val (.int fr), .val (.int en), .val (.int (en + (-1 : Int32)))] [(.int (f_closes (en + (-1 : Int32)) fr B))]))
      refine Gl.go ?_ (fun t k => XS.ifYes X35.here hx rfl (pc0 := 44) (pc' := 50) rfl (hb hby d5_44) rfl ((if0 _ _).trans (teq hc33).1) (by decide) (by decide) k)
      show Gl _ _ _ _ (T35.setTop (mkF m 50 #[.val (.ref a), .val (.int fr), .val (.int en), .val (.int (en + (-1 : Int32)))] []))
      refine Gl.go ?_ (fun t k => XS.aloadN X35.here hx rfl (hb hby d5_50) rfl rfl k)
      show Gl _ _ _ _ (T35.setTop (mkF m 51 #[.val (.ref a), .val (.int fr), .val (.int en), .val (.int (en + (-1 : Int32)))] [(.ref a)]))
      refine Gl.go ?_ (fun t k => XS.iloadN X35.here hx rfl (hb hby d5_51) rfl k)
      show Gl _ _ _ _ (T35.setTop (mkF m 52 #[.val (.ref a), .val (.int fr), .val (.int en), .val (.int (en + (-1 : Int32)))] [(.int (en + (-1 : Int32))), (.ref a)]))
      refine Gl.go ?_ (fun t k => XS.iloadN X35.here hx rfl (hb hby d5_52) rfl k)
      show Gl _ _ _ _ (T35.setTop (mkF m 53 #[.val (.ref a), .val (.int fr), .val (.int en), .val (.int (en + (-1 : Int32)))] [(.int fr), (.int (en + (-1 : Int32))), (.ref a)]))
      obtain ⟨_, _, ⟨T36, L36, k36, n36⟩, -, X36, ⟨Lc36, hQ36, l36, y36, z36⟩, st36⟩ := Jvm.LawKit.callS X35 hx (y := (⟨"com/example/facet/facet/xml/MarkupScannerPlainUntilPinLaw", "closes", "([BII)Z"⟩ : MethodName)) hown (mvT hZ (hw _ (List.mem_of_getElem? (i := 18) rfl))) (mvT hZ (hw _ (List.mem_of_getElem? (i := 19) rfl))) (mvT hZ (hw _ (List.mem_of_getElem? (i := 3) rfl))) (mvT hZ (hw _ (List.mem_of_getElem? (i := 20) rfl))) (by decide) (backOf (W := 0) (rm6 l Z a0 hw [] a (en + (-1 : Int32)) fr B h0 hB hf hr31) hZ (hw _ (List.mem_of_getElem? (i := 20) rfl)) (hw _ (List.mem_of_getElem? (i := 3) rfl)) (by decide) (by decide)) (g := (mkF m 53 #[.val (.ref a), .val (.int fr), .val (.int en), .val (.int (en + (-1 : Int32)))] [(.int fr), (.int (en + (-1 : Int32))), (.ref a)])) rfl (by rw [hml]; rfl) (argsL := [(.ref a), (.int (en + (-1 : Int32))), (.int fr)]) (rest := []) (lenOf pd_0 rfl) rfl (by show 2 * 0 + _ ≤ _; exact Nat.le_of_eq rfl) (hb hby d5_53) (fun _ _ => ⟨rfl, e35, (by decide : 0 + 0 ≤ _), (by decide : 0 + 0 ≤ _)⟩)
      dsimp only [Pt.U, Pt.locs, Pt.cells, Pt.slots] at X36 l36 y36 z36 st36 hQ36
      subst l36 y36 z36
      obtain ⟨rfl, rfl, e36⟩ := hQ36
      refine Gl.go ?_ st36
      show Gl _ _ _ _ (T36.setTop (mkF m 56 #[.val (.ref a), .val (.int fr), .val (.int en), .val (.int (en + (-1 : Int32)))] [(.int (f_closes (en + (-1 : Int32)) fr B))]))
      refine Gl.go ?_ (fun t k => XS.ifYes X36.here hx rfl (pc0 := 56) (pc' := 62) rfl (hb hby d5_56) rfl ((if0 _ _).trans (teq hc33).1) (by decide) (by decide) k)
      show Gl _ _ _ _ (T36.setTop (mkF m 62 #[.val (.ref a), .val (.int fr), .val (.int en), .val (.int (en + (-1 : Int32)))] []))
      refine Gl.go ?_ (fun t k => XS.aloadN X36.here hx rfl (hb hby d5_62) rfl rfl k)
      show Gl _ _ _ _ (T36.setTop (mkF m 63 #[.val (.ref a), .val (.int fr), .val (.int en), .val (.int (en + (-1 : Int32)))] [(.ref a)]))
      refine Gl.go ?_ (fun t k => XS.iloadN X36.here hx rfl (hb hby d5_63) rfl k)
      show Gl _ _ _ _ (T36.setTop (mkF m 64 #[.val (.ref a), .val (.int fr), .val (.int en), .val (.int (en + (-1 : Int32)))] [(.int (en + (-1 : Int32))), (.ref a)]))
      refine Gl.go ?_ (fun t k => XS.iloadN X36.here hx rfl (hb hby d5_64) rfl k)
      show Gl _ _ _ _ (T36.setTop (mkF m 65 #[.val (.ref a), .val (.int fr), .val (.int en), .val (.int (en + (-1 : Int32)))] [(.int fr), (.int (en + (-1 : Int32))), (.ref a)]))
      obtain ⟨_, _, ⟨T37, L37, k37, n37⟩, -, X37, ⟨Lc37, hQ37, l37, y37, z37⟩, st37⟩ := Jvm.LawKit.callS X36 hx (y := (⟨"com/example/facet/facet/xml/MarkupScannerPlainUntilPinLaw", "closes", "([BII)Z"⟩ : MethodName)) hown (mvT hZ (hw _ (List.mem_of_getElem? (i := 18) rfl))) (mvT hZ (hw _ (List.mem_of_getElem? (i := 19) rfl))) (mvT hZ (hw _ (List.mem_of_getElem? (i := 3) rfl))) (mvT hZ (hw _ (List.mem_of_getElem? (i := 20) rfl))) (by decide) (backOf (W := 0) (rm6 l Z a0 hw [] a (en + (-1 : Int32)) fr B h0 hB hf hr31) hZ (hw _ (List.mem_of_getElem? (i := 20) rfl)) (hw _ (List.mem_of_getElem? (i := 3) rfl)) (by decide) (by decide)) (g := (mkF m 65 #[.val (.ref a), .val (.int fr), .val (.int en), .val (.int (en + (-1 : Int32)))] [(.int fr), (.int (en + (-1 : Int32))), (.ref a)])) rfl (by rw [hml]; rfl) (argsL := [(.ref a), (.int (en + (-1 : Int32))), (.int fr)]) (rest := []) (lenOf pd_0 rfl) rfl (by show 2 * 0 + _ ≤ _; exact Nat.le_of_eq rfl) (hb hby d5_65) (fun _ _ => ⟨rfl, e36, (by decide : 0 + 0 ≤ _), (by decide : 0 + 0 ≤ _)⟩)
      dsimp only [Pt.U, Pt.locs, Pt.cells, Pt.slots] at X37 l37 y37 z37 st37 hQ37
      subst l37 y37 z37
      obtain ⟨rfl, rfl, e37⟩ := hQ37
      refine Gl.go ?_ st37
      show Gl _ _ _ _ (T37.setTop (mkF m 68 #[.val (.ref a), .val (.int fr), .val (.int en), .val (.int (en + (-1 : Int32)))] [(.int (f_closes (en + (-1 : Int32)) fr B))]))
      refine Gl.go ?_ (fun t k => XS.ifYes X37.here hx rfl (pc0 := 68) (pc' := 74) rfl (hb hby d5_68) rfl ((if0 _ _).trans (teq hc33).1) (by decide) (by decide) k)
      show Gl _ _ _ _ (T37.setTop (mkF m 74 #[.val (.ref a), .val (.int fr), .val (.int en), .val (.int (en + (-1 : Int32)))] []))
      refine Gl.go ?_ (fun t k => XS.iloadN X37.here hx rfl (hb hby d5_74) rfl k)
      show Gl _ _ _ _ (T37.setTop (mkF m 75 #[.val (.ref a), .val (.int fr), .val (.int en), .val (.int (en + (-1 : Int32)))] [(.int (en + (-1 : Int32)))]))
      obtain ⟨fs, hr, hrun, hended, hW, hsame⟩ := X37.leave (v := some (.int (en + (-1 : Int32)))) (fun h => by rw [Bd.returns] at h; cases h) (BodyLoose.notSynchronized Bd)
      exact Gl.mk ⟨_, _, retI X37 hx Bd.returns (hb hby d5_75) hr, hrun, hended, _, _, rfl, ⟨congrArg (fun z => some (Value.int z)) ((if_neg hc25).trans ((if_pos hc33).trans (rfl))).symm, rfl, e37⟩, ⟨_, rfl⟩, hW, hsame.mono (by decide) (by decide)⟩
    · refine Gl.go ?_ (fun t k => XS.ifNo X32.here hx rfl (hb hby d5_20) rfl ((if0 _ _).trans (feq hc33).1) k)
      show Gl _ _ _ _ (T32.setTop (mkF m 23 #[.val (.ref a), .val (.int fr), .val (.int en), .val (.int (en + (-1 : Int32)))] []))
      refine Gl.go ?_ (fun t k => XS.iinc X32.here hx rfl (hb hby d5_23) rfl (l' := #[.val (.ref a), .val (.int fr), .val (.int en), .val (.int ((en + (-1 : Int32)) + (-1 : Int32)))]) rfl k)
      show Gl _ _ _ _ (T32.setTop (mkF m 26 #[.val (.ref a), .val (.int fr), .val (.int en), .val (.int ((en + (-1 : Int32)) + (-1 : Int32)))] []))
      have hr38 : (((en + (-1 : Int32)) + (-1 : Int32))).toInt ≤ 6 := own_down hf hr31 (own_clz hc33)
      refine Gl.go ?_ (fun t k => XS.aloadN X32.here hx rfl (hb hby d5_26) rfl rfl k)
      show Gl _ _ _ _ (T32.setTop (mkF m 27 #[.val (.ref a), .val (.int fr), .val (.int en), .val (.int ((en + (-1 : Int32)) + (-1 : Int32)))] [(.ref a)]))
      refine Gl.go ?_ (fun t k => XS.iloadN X32.here hx rfl (hb hby d5_27) rfl k)
      show Gl _ _ _ _ (T32.setTop (mkF m 28 #[.val (.ref a), .val (.int fr), .val (.int en), .val (.int ((en + (-1 : Int32)) + (-1 : Int32)))] [(.int ((en + (-1 : Int32)) + (-1 : Int32))), (.ref a)]))
      refine Gl.go ?_ (fun t k => XS.iloadN X32.here hx rfl (hb hby d5_28) rfl k)
      show Gl _ _ _ _ (T32.setTop (mkF m 29 #[.val (.ref a), .val (.int fr), .val (.int en), .val (.int ((en + (-1 : Int32)) + (-1 : Int32)))] [(.int fr), (.int ((en + (-1 : Int32)) + (-1 : Int32))), (.ref a)]))
      obtain ⟨_, _, ⟨T39, L39, k39, n39⟩, -, X39, ⟨Lc39, hQ39, l39, y39, z39⟩, st39⟩ := Jvm.LawKit.callS X32 hx (y := (⟨"com/example/facet/facet/xml/MarkupScannerPlainUntilPinLaw", "closes", "([BII)Z"⟩ : MethodName)) hown (mvT hZ (hw _ (List.mem_of_getElem? (i := 18) rfl))) (mvT hZ (hw _ (List.mem_of_getElem? (i := 19) rfl))) (mvT hZ (hw _ (List.mem_of_getElem? (i := 3) rfl))) (mvT hZ (hw _ (List.mem_of_getElem? (i := 20) rfl))) (by decide) (backOf (W := 0) (rm6 l Z a0 hw [] a ((en + (-1 : Int32)) + (-1 : Int32)) fr B h0 hB hf hr38) hZ (hw _ (List.mem_of_getElem? (i := 20) rfl)) (hw _ (List.mem_of_getElem? (i := 3) rfl)) (by decide) (by decide)) (g := (mkF m 29 #[.val (.ref a), .val (.int fr), .val (.int en), .val (.int ((en + (-1 : Int32)) + (-1 : Int32)))] [(.int fr), (.int ((en + (-1 : Int32)) + (-1 : Int32))), (.ref a)])) rfl (by rw [hml]; rfl) (argsL := [(.ref a), (.int ((en + (-1 : Int32)) + (-1 : Int32))), (.int fr)]) (rest := []) (lenOf pd_0 rfl) rfl (by show 2 * 0 + _ ≤ _; exact Nat.le_of_eq rfl) (hb hby d5_29) (fun _ _ => ⟨rfl, e32, (by decide : 0 + 0 ≤ _), (by decide : 0 + 0 ≤ _)⟩)
      dsimp only [Pt.U, Pt.locs, Pt.cells, Pt.slots] at X39 l39 y39 z39 st39 hQ39
      subst l39 y39 z39
      obtain ⟨rfl, rfl, e39⟩ := hQ39
      refine Gl.go ?_ st39
      show Gl _ _ _ _ (T39.setTop (mkF m 32 #[.val (.ref a), .val (.int fr), .val (.int en), .val (.int ((en + (-1 : Int32)) + (-1 : Int32)))] [(.int (f_closes ((en + (-1 : Int32)) + (-1 : Int32)) fr B))]))
      by_cases hc40 : (f_closes ((en + (-1 : Int32)) + (-1 : Int32)) fr B) = (0 : Int32)
      · refine Gl.go ?_ (fun t k => XS.ifYes X39.here hx rfl (pc0 := 32) (pc' := 38) rfl (hb hby d5_32) rfl ((if0 _ _).trans (teq hc40).1) (by decide) (by decide) k)
        show Gl _ _ _ _ (T39.setTop (mkF m 38 #[.val (.ref a), .val (.int fr), .val (.int en), .val (.int ((en + (-1 : Int32)) + (-1 : Int32)))] []))
        refine Gl.go ?_ (fun t k => XS.aloadN X39.here hx rfl (hb hby d5_38) rfl rfl k)
        show Gl _ _ _ _ (T39.setTop (mkF m 39 #[.val (.ref a), .val (.int fr), .val (.int en), .val (.int ((en + (-1 : Int32)) + (-1 : Int32)))] [(.ref a)]))
        refine Gl.go ?_ (fun t k => XS.iloadN X39.here hx rfl (hb hby d5_39) rfl k)
        show Gl _ _ _ _ (T39.setTop (mkF m 40 #[.val (.ref a), .val (.int fr), .val (.int en), .val (.int ((en + (-1 : Int32)) + (-1 : Int32)))] [(.int ((en + (-1 : Int32)) + (-1 : Int32))), (.ref a)]))
        refine Gl.go ?_ (fun t k => XS.iloadN X39.here hx rfl (hb hby d5_40) rfl k)
        show Gl _ _ _ _ (T39.setTop (mkF m 41 #[.val (.ref a), .val (.int fr), .val (.int en), .val (.int ((en + (-1 : Int32)) + (-1 : Int32)))] [(.int fr), (.int ((en + (-1 : Int32)) + (-1 : Int32))), (.ref a)]))
        obtain ⟨_, _, ⟨T41, L41, k41, n41⟩, -, X41, ⟨Lc41, hQ41, l41, y41, z41⟩, st41⟩ := Jvm.LawKit.callS X39 hx (y := (⟨"com/example/facet/facet/xml/MarkupScannerPlainUntilPinLaw", "closes", "([BII)Z"⟩ : MethodName)) hown (mvT hZ (hw _ (List.mem_of_getElem? (i := 18) rfl))) (mvT hZ (hw _ (List.mem_of_getElem? (i := 19) rfl))) (mvT hZ (hw _ (List.mem_of_getElem? (i := 3) rfl))) (mvT hZ (hw _ (List.mem_of_getElem? (i := 20) rfl))) (by decide) (backOf (W := 0) (rm6 l Z a0 hw [] a ((en + (-1 : Int32)) + (-1 : Int32)) fr B h0 hB hf hr38) hZ (hw _ (List.mem_of_getElem? (i := 20) rfl)) (hw _ (List.mem_of_getElem? (i := 3) rfl)) (by decide) (by decide)) (g := (mkF m 41 #[.val (.ref a), .val (.int fr), .val (.int en), .val (.int ((en + (-1 : Int32)) + (-1 : Int32)))] [(.int fr), (.int ((en + (-1 : Int32)) + (-1 : Int32))), (.ref a)])) rfl (by rw [hml]; rfl) (argsL := [(.ref a), (.int ((en + (-1 : Int32)) + (-1 : Int32))), (.int fr)]) (rest := []) (lenOf pd_0 rfl) rfl (by show 2 * 0 + _ ≤ _; exact Nat.le_of_eq rfl) (hb hby d5_41) (fun _ _ => ⟨rfl, e39, (by decide : 0 + 0 ≤ _), (by decide : 0 + 0 ≤ _)⟩)
        dsimp only [Pt.U, Pt.locs, Pt.cells, Pt.slots] at X41 l41 y41 z41 st41 hQ41
        subst l41 y41 z41
        obtain ⟨rfl, rfl, e41⟩ := hQ41
        refine Gl.go ?_ st41
        show Gl _ _ _ _ (T41.setTop (mkF m 44 #[.val (.ref a), .val (.int fr), .val (.int en), .val (.int ((en + (-1 : Int32)) + (-1 : Int32)))] [(.int (f_closes ((en + (-1 : Int32)) + (-1 : Int32)) fr B))]))
        refine Gl.go ?_ (fun t k => XS.ifYes X41.here hx rfl (pc0 := 44) (pc' := 50) rfl (hb hby d5_44) rfl ((if0 _ _).trans (teq hc40).1) (by decide) (by decide) k)
        show Gl _ _ _ _ (T41.setTop (mkF m 50 #[.val (.ref a), .val (.int fr), .val (.int en), .val (.int ((en + (-1 : Int32)) + (-1 : Int32)))] []))
        refine Gl.go ?_ (fun t k => XS.aloadN X41.here hx rfl (hb hby d5_50) rfl rfl k)
        show Gl _ _ _ _ (T41.setTop (mkF m 51 #[.val (.ref a), .val (.int fr), .val (.int en), .val (.int ((en + (-1 : Int32)) + (-1 : Int32)))] [(.ref a)]))
        refine Gl.go ?_ (fun t k => XS.iloadN X41.here hx rfl (hb hby d5_51) rfl k)
        show Gl _ _ _ _ (T41.setTop (mkF m 52 #[.val (.ref a), .val (.int fr), .val (.int en), .val (.int ((en + (-1 : Int32)) + (-1 : Int32)))] [(.int ((en + (-1 : Int32)) + (-1 : Int32))), (.ref a)]))
        refine Gl.go ?_ (fun t k => XS.iloadN X41.here hx rfl (hb hby d5_52) rfl k)
        show Gl _ _ _ _ (T41.setTop (mkF m 53 #[.val (.ref a), .val (.int fr), .val (.int en), .val (.int ((en + (-1 : Int32)) + (-1 : Int32)))] [(.int fr), (.int ((en + (-1 : Int32)) + (-1 : Int32))), (.ref a)]))
        obtain ⟨_, _, ⟨T42, L42, k42, n42⟩, -, X42, ⟨Lc42, hQ42, l42, y42, z42⟩, st42⟩ := Jvm.LawKit.callS X41 hx (y := (⟨"com/example/facet/facet/xml/MarkupScannerPlainUntilPinLaw", "closes", "([BII)Z"⟩ : MethodName)) hown (mvT hZ (hw _ (List.mem_of_getElem? (i := 18) rfl))) (mvT hZ (hw _ (List.mem_of_getElem? (i := 19) rfl))) (mvT hZ (hw _ (List.mem_of_getElem? (i := 3) rfl))) (mvT hZ (hw _ (List.mem_of_getElem? (i := 20) rfl))) (by decide) (backOf (W := 0) (rm6 l Z a0 hw [] a ((en + (-1 : Int32)) + (-1 : Int32)) fr B h0 hB hf hr38) hZ (hw _ (List.mem_of_getElem? (i := 20) rfl)) (hw _ (List.mem_of_getElem? (i := 3) rfl)) (by decide) (by decide)) (g := (mkF m 53 #[.val (.ref a), .val (.int fr), .val (.int en), .val (.int ((en + (-1 : Int32)) + (-1 : Int32)))] [(.int fr), (.int ((en + (-1 : Int32)) + (-1 : Int32))), (.ref a)])) rfl (by rw [hml]; rfl) (argsL := [(.ref a), (.int ((en + (-1 : Int32)) + (-1 : Int32))), (.int fr)]) (rest := []) (lenOf pd_0 rfl) rfl (by show 2 * 0 + _ ≤ _; exact Nat.le_of_eq rfl) (hb hby d5_53) (fun _ _ => ⟨rfl, e41, (by decide : 0 + 0 ≤ _), (by decide : 0 + 0 ≤ _)⟩)
        dsimp only [Pt.U, Pt.locs, Pt.cells, Pt.slots] at X42 l42 y42 z42 st42 hQ42
        subst l42 y42 z42
        obtain ⟨rfl, rfl, e42⟩ := hQ42
        refine Gl.go ?_ st42
        show Gl _ _ _ _ (T42.setTop (mkF m 56 #[.val (.ref a), .val (.int fr), .val (.int en), .val (.int ((en + (-1 : Int32)) + (-1 : Int32)))] [(.int (f_closes ((en + (-1 : Int32)) + (-1 : Int32)) fr B))]))
        refine Gl.go ?_ (fun t k => XS.ifYes X42.here hx rfl (pc0 := 56) (pc' := 62) rfl (hb hby d5_56) rfl ((if0 _ _).trans (teq hc40).1) (by decide) (by decide) k)
        show Gl _ _ _ _ (T42.setTop (mkF m 62 #[.val (.ref a), .val (.int fr), .val (.int en), .val (.int ((en + (-1 : Int32)) + (-1 : Int32)))] []))
        refine Gl.go ?_ (fun t k => XS.aloadN X42.here hx rfl (hb hby d5_62) rfl rfl k)
        show Gl _ _ _ _ (T42.setTop (mkF m 63 #[.val (.ref a), .val (.int fr), .val (.int en), .val (.int ((en + (-1 : Int32)) + (-1 : Int32)))] [(.ref a)]))
        refine Gl.go ?_ (fun t k => XS.iloadN X42.here hx rfl (hb hby d5_63) rfl k)
        show Gl _ _ _ _ (T42.setTop (mkF m 64 #[.val (.ref a), .val (.int fr), .val (.int en), .val (.int ((en + (-1 : Int32)) + (-1 : Int32)))] [(.int ((en + (-1 : Int32)) + (-1 : Int32))), (.ref a)]))
        refine Gl.go ?_ (fun t k => XS.iloadN X42.here hx rfl (hb hby d5_64) rfl k)
        show Gl _ _ _ _ (T42.setTop (mkF m 65 #[.val (.ref a), .val (.int fr), .val (.int en), .val (.int ((en + (-1 : Int32)) + (-1 : Int32)))] [(.int fr), (.int ((en + (-1 : Int32)) + (-1 : Int32))), (.ref a)]))
        obtain ⟨_, _, ⟨T43, L43, k43, n43⟩, -, X43, ⟨Lc43, hQ43, l43, y43, z43⟩, st43⟩ := Jvm.LawKit.callS X42 hx (y := (⟨"com/example/facet/facet/xml/MarkupScannerPlainUntilPinLaw", "closes", "([BII)Z"⟩ : MethodName)) hown (mvT hZ (hw _ (List.mem_of_getElem? (i := 18) rfl))) (mvT hZ (hw _ (List.mem_of_getElem? (i := 19) rfl))) (mvT hZ (hw _ (List.mem_of_getElem? (i := 3) rfl))) (mvT hZ (hw _ (List.mem_of_getElem? (i := 20) rfl))) (by decide) (backOf (W := 0) (rm6 l Z a0 hw [] a ((en + (-1 : Int32)) + (-1 : Int32)) fr B h0 hB hf hr38) hZ (hw _ (List.mem_of_getElem? (i := 20) rfl)) (hw _ (List.mem_of_getElem? (i := 3) rfl)) (by decide) (by decide)) (g := (mkF m 65 #[.val (.ref a), .val (.int fr), .val (.int en), .val (.int ((en + (-1 : Int32)) + (-1 : Int32)))] [(.int fr), (.int ((en + (-1 : Int32)) + (-1 : Int32))), (.ref a)])) rfl (by rw [hml]; rfl) (argsL := [(.ref a), (.int ((en + (-1 : Int32)) + (-1 : Int32))), (.int fr)]) (rest := []) (lenOf pd_0 rfl) rfl (by show 2 * 0 + _ ≤ _; exact Nat.le_of_eq rfl) (hb hby d5_65) (fun _ _ => ⟨rfl, e42, (by decide : 0 + 0 ≤ _), (by decide : 0 + 0 ≤ _)⟩)
        dsimp only [Pt.U, Pt.locs, Pt.cells, Pt.slots] at X43 l43 y43 z43 st43 hQ43
        subst l43 y43 z43
        obtain ⟨rfl, rfl, e43⟩ := hQ43
        refine Gl.go ?_ st43
        show Gl _ _ _ _ (T43.setTop (mkF m 68 #[.val (.ref a), .val (.int fr), .val (.int en), .val (.int ((en + (-1 : Int32)) + (-1 : Int32)))] [(.int (f_closes ((en + (-1 : Int32)) + (-1 : Int32)) fr B))]))
        refine Gl.go ?_ (fun t k => XS.ifYes X43.here hx rfl (pc0 := 68) (pc' := 74) rfl (hb hby d5_68) rfl ((if0 _ _).trans (teq hc40).1) (by decide) (by decide) k)
        show Gl _ _ _ _ (T43.setTop (mkF m 74 #[.val (.ref a), .val (.int fr), .val (.int en), .val (.int ((en + (-1 : Int32)) + (-1 : Int32)))] []))
        refine Gl.go ?_ (fun t k => XS.iloadN X43.here hx rfl (hb hby d5_74) rfl k)
        show Gl _ _ _ _ (T43.setTop (mkF m 75 #[.val (.ref a), .val (.int fr), .val (.int en), .val (.int ((en + (-1 : Int32)) + (-1 : Int32)))] [(.int ((en + (-1 : Int32)) + (-1 : Int32)))]))
        obtain ⟨fs, hr, hrun, hended, hW, hsame⟩ := X43.leave (v := some (.int ((en + (-1 : Int32)) + (-1 : Int32)))) (fun h => by rw [Bd.returns] at h; cases h) (BodyLoose.notSynchronized Bd)
        exact Gl.mk ⟨_, _, retI X43 hx Bd.returns (hb hby d5_75) hr, hrun, hended, _, _, rfl, ⟨congrArg (fun z => some (Value.int z)) ((if_neg hc25).trans ((if_neg hc33).trans ((if_pos hc40).trans (rfl)))).symm, rfl, e43⟩, ⟨_, rfl⟩, hW, hsame.mono (by decide) (by decide)⟩
      · refine Gl.go ?_ (fun t k => XS.ifNo X39.here hx rfl (hb hby d5_32) rfl ((if0 _ _).trans (feq hc40).1) k)
        show Gl _ _ _ _ (T39.setTop (mkF m 35 #[.val (.ref a), .val (.int fr), .val (.int en), .val (.int ((en + (-1 : Int32)) + (-1 : Int32)))] []))
        refine Gl.go ?_ (fun t k => XS.iinc X39.here hx rfl (hb hby d5_35) rfl (l' := #[.val (.ref a), .val (.int fr), .val (.int en), .val (.int (((en + (-1 : Int32)) + (-1 : Int32)) + (-1 : Int32)))]) rfl k)
        show Gl _ _ _ _ (T39.setTop (mkF m 38 #[.val (.ref a), .val (.int fr), .val (.int en), .val (.int (((en + (-1 : Int32)) + (-1 : Int32)) + (-1 : Int32)))] []))
        have hr44 : ((((en + (-1 : Int32)) + (-1 : Int32)) + (-1 : Int32))).toInt ≤ 6 := own_down hf hr38 (own_clz hc40)
        refine Gl.go ?_ (fun t k => XS.aloadN X39.here hx rfl (hb hby d5_38) rfl rfl k)
        show Gl _ _ _ _ (T39.setTop (mkF m 39 #[.val (.ref a), .val (.int fr), .val (.int en), .val (.int (((en + (-1 : Int32)) + (-1 : Int32)) + (-1 : Int32)))] [(.ref a)]))
        refine Gl.go ?_ (fun t k => XS.iloadN X39.here hx rfl (hb hby d5_39) rfl k)
        show Gl _ _ _ _ (T39.setTop (mkF m 40 #[.val (.ref a), .val (.int fr), .val (.int en), .val (.int (((en + (-1 : Int32)) + (-1 : Int32)) + (-1 : Int32)))] [(.int (((en + (-1 : Int32)) + (-1 : Int32)) + (-1 : Int32))), (.ref a)]))
        refine Gl.go ?_ (fun t k => XS.iloadN X39.here hx rfl (hb hby d5_40) rfl k)
        show Gl _ _ _ _ (T39.setTop (mkF m 41 #[.val (.ref a), .val (.int fr), .val (.int en), .val (.int (((en + (-1 : Int32)) + (-1 : Int32)) + (-1 : Int32)))] [(.int fr), (.int (((en + (-1 : Int32)) + (-1 : Int32)) + (-1 : Int32))), (.ref a)]))
        obtain ⟨_, _, ⟨T45, L45, k45, n45⟩, -, X45, ⟨Lc45, hQ45, l45, y45, z45⟩, st45⟩ := Jvm.LawKit.callS X39 hx (y := (⟨"com/example/facet/facet/xml/MarkupScannerPlainUntilPinLaw", "closes", "([BII)Z"⟩ : MethodName)) hown (mvT hZ (hw _ (List.mem_of_getElem? (i := 18) rfl))) (mvT hZ (hw _ (List.mem_of_getElem? (i := 19) rfl))) (mvT hZ (hw _ (List.mem_of_getElem? (i := 3) rfl))) (mvT hZ (hw _ (List.mem_of_getElem? (i := 20) rfl))) (by decide) (backOf (W := 0) (rm6 l Z a0 hw [] a (((en + (-1 : Int32)) + (-1 : Int32)) + (-1 : Int32)) fr B h0 hB hf hr44) hZ (hw _ (List.mem_of_getElem? (i := 20) rfl)) (hw _ (List.mem_of_getElem? (i := 3) rfl)) (by decide) (by decide)) (g := (mkF m 41 #[.val (.ref a), .val (.int fr), .val (.int en), .val (.int (((en + (-1 : Int32)) + (-1 : Int32)) + (-1 : Int32)))] [(.int fr), (.int (((en + (-1 : Int32)) + (-1 : Int32)) + (-1 : Int32))), (.ref a)])) rfl (by rw [hml]; rfl) (argsL := [(.ref a), (.int (((en + (-1 : Int32)) + (-1 : Int32)) + (-1 : Int32))), (.int fr)]) (rest := []) (lenOf pd_0 rfl) rfl (by show 2 * 0 + _ ≤ _; exact Nat.le_of_eq rfl) (hb hby d5_41) (fun _ _ => ⟨rfl, e39, (by decide : 0 + 0 ≤ _), (by decide : 0 + 0 ≤ _)⟩)
        dsimp only [Pt.U, Pt.locs, Pt.cells, Pt.slots] at X45 l45 y45 z45 st45 hQ45
        subst l45 y45 z45
        obtain ⟨rfl, rfl, e45⟩ := hQ45
        refine Gl.go ?_ st45
        show Gl _ _ _ _ (T45.setTop (mkF m 44 #[.val (.ref a), .val (.int fr), .val (.int en), .val (.int (((en + (-1 : Int32)) + (-1 : Int32)) + (-1 : Int32)))] [(.int (f_closes (((en + (-1 : Int32)) + (-1 : Int32)) + (-1 : Int32)) fr B))]))
        by_cases hc46 : (f_closes (((en + (-1 : Int32)) + (-1 : Int32)) + (-1 : Int32)) fr B) = (0 : Int32)
        · refine Gl.go ?_ (fun t k => XS.ifYes X45.here hx rfl (pc0 := 44) (pc' := 50) rfl (hb hby d5_44) rfl ((if0 _ _).trans (teq hc46).1) (by decide) (by decide) k)
          show Gl _ _ _ _ (T45.setTop (mkF m 50 #[.val (.ref a), .val (.int fr), .val (.int en), .val (.int (((en + (-1 : Int32)) + (-1 : Int32)) + (-1 : Int32)))] []))
          refine Gl.go ?_ (fun t k => XS.aloadN X45.here hx rfl (hb hby d5_50) rfl rfl k)
          show Gl _ _ _ _ (T45.setTop (mkF m 51 #[.val (.ref a), .val (.int fr), .val (.int en), .val (.int (((en + (-1 : Int32)) + (-1 : Int32)) + (-1 : Int32)))] [(.ref a)]))
          refine Gl.go ?_ (fun t k => XS.iloadN X45.here hx rfl (hb hby d5_51) rfl k)
          show Gl _ _ _ _ (T45.setTop (mkF m 52 #[.val (.ref a), .val (.int fr), .val (.int en), .val (.int (((en + (-1 : Int32)) + (-1 : Int32)) + (-1 : Int32)))] [(.int (((en + (-1 : Int32)) + (-1 : Int32)) + (-1 : Int32))), (.ref a)]))
          refine Gl.go ?_ (fun t k => XS.iloadN X45.here hx rfl (hb hby d5_52) rfl k)
          show Gl _ _ _ _ (T45.setTop (mkF m 53 #[.val (.ref a), .val (.int fr), .val (.int en), .val (.int (((en + (-1 : Int32)) + (-1 : Int32)) + (-1 : Int32)))] [(.int fr), (.int (((en + (-1 : Int32)) + (-1 : Int32)) + (-1 : Int32))), (.ref a)]))
          obtain ⟨_, _, ⟨T47, L47, k47, n47⟩, -, X47, ⟨Lc47, hQ47, l47, y47, z47⟩, st47⟩ := Jvm.LawKit.callS X45 hx (y := (⟨"com/example/facet/facet/xml/MarkupScannerPlainUntilPinLaw", "closes", "([BII)Z"⟩ : MethodName)) hown (mvT hZ (hw _ (List.mem_of_getElem? (i := 18) rfl))) (mvT hZ (hw _ (List.mem_of_getElem? (i := 19) rfl))) (mvT hZ (hw _ (List.mem_of_getElem? (i := 3) rfl))) (mvT hZ (hw _ (List.mem_of_getElem? (i := 20) rfl))) (by decide) (backOf (W := 0) (rm6 l Z a0 hw [] a (((en + (-1 : Int32)) + (-1 : Int32)) + (-1 : Int32)) fr B h0 hB hf hr44) hZ (hw _ (List.mem_of_getElem? (i := 20) rfl)) (hw _ (List.mem_of_getElem? (i := 3) rfl)) (by decide) (by decide)) (g := (mkF m 53 #[.val (.ref a), .val (.int fr), .val (.int en), .val (.int (((en + (-1 : Int32)) + (-1 : Int32)) + (-1 : Int32)))] [(.int fr), (.int (((en + (-1 : Int32)) + (-1 : Int32)) + (-1 : Int32))), (.ref a)])) rfl (by rw [hml]; rfl) (argsL := [(.ref a), (.int (((en + (-1 : Int32)) + (-1 : Int32)) + (-1 : Int32))), (.int fr)]) (rest := []) (lenOf pd_0 rfl) rfl (by show 2 * 0 + _ ≤ _; exact Nat.le_of_eq rfl) (hb hby d5_53) (fun _ _ => ⟨rfl, e45, (by decide : 0 + 0 ≤ _), (by decide : 0 + 0 ≤ _)⟩)
          dsimp only [Pt.U, Pt.locs, Pt.cells, Pt.slots] at X47 l47 y47 z47 st47 hQ47
          subst l47 y47 z47
          obtain ⟨rfl, rfl, e47⟩ := hQ47
          refine Gl.go ?_ st47
          show Gl _ _ _ _ (T47.setTop (mkF m 56 #[.val (.ref a), .val (.int fr), .val (.int en), .val (.int (((en + (-1 : Int32)) + (-1 : Int32)) + (-1 : Int32)))] [(.int (f_closes (((en + (-1 : Int32)) + (-1 : Int32)) + (-1 : Int32)) fr B))]))
          refine Gl.go ?_ (fun t k => XS.ifYes X47.here hx rfl (pc0 := 56) (pc' := 62) rfl (hb hby d5_56) rfl ((if0 _ _).trans (teq hc46).1) (by decide) (by decide) k)
          show Gl _ _ _ _ (T47.setTop (mkF m 62 #[.val (.ref a), .val (.int fr), .val (.int en), .val (.int (((en + (-1 : Int32)) + (-1 : Int32)) + (-1 : Int32)))] []))
          refine Gl.go ?_ (fun t k => XS.aloadN X47.here hx rfl (hb hby d5_62) rfl rfl k)
          show Gl _ _ _ _ (T47.setTop (mkF m 63 #[.val (.ref a), .val (.int fr), .val (.int en), .val (.int (((en + (-1 : Int32)) + (-1 : Int32)) + (-1 : Int32)))] [(.ref a)]))
          refine Gl.go ?_ (fun t k => XS.iloadN X47.here hx rfl (hb hby d5_63) rfl k)
          show Gl _ _ _ _ (T47.setTop (mkF m 64 #[.val (.ref a), .val (.int fr), .val (.int en), .val (.int (((en + (-1 : Int32)) + (-1 : Int32)) + (-1 : Int32)))] [(.int (((en + (-1 : Int32)) + (-1 : Int32)) + (-1 : Int32))), (.ref a)]))
          refine Gl.go ?_ (fun t k => XS.iloadN X47.here hx rfl (hb hby d5_64) rfl k)
          show Gl _ _ _ _ (T47.setTop (mkF m 65 #[.val (.ref a), .val (.int fr), .val (.int en), .val (.int (((en + (-1 : Int32)) + (-1 : Int32)) + (-1 : Int32)))] [(.int fr), (.int (((en + (-1 : Int32)) + (-1 : Int32)) + (-1 : Int32))), (.ref a)]))
          obtain ⟨_, _, ⟨T48, L48, k48, n48⟩, -, X48, ⟨Lc48, hQ48, l48, y48, z48⟩, st48⟩ := Jvm.LawKit.callS X47 hx (y := (⟨"com/example/facet/facet/xml/MarkupScannerPlainUntilPinLaw", "closes", "([BII)Z"⟩ : MethodName)) hown (mvT hZ (hw _ (List.mem_of_getElem? (i := 18) rfl))) (mvT hZ (hw _ (List.mem_of_getElem? (i := 19) rfl))) (mvT hZ (hw _ (List.mem_of_getElem? (i := 3) rfl))) (mvT hZ (hw _ (List.mem_of_getElem? (i := 20) rfl))) (by decide) (backOf (W := 0) (rm6 l Z a0 hw [] a (((en + (-1 : Int32)) + (-1 : Int32)) + (-1 : Int32)) fr B h0 hB hf hr44) hZ (hw _ (List.mem_of_getElem? (i := 20) rfl)) (hw _ (List.mem_of_getElem? (i := 3) rfl)) (by decide) (by decide)) (g := (mkF m 65 #[.val (.ref a), .val (.int fr), .val (.int en), .val (.int (((en + (-1 : Int32)) + (-1 : Int32)) + (-1 : Int32)))] [(.int fr), (.int (((en + (-1 : Int32)) + (-1 : Int32)) + (-1 : Int32))), (.ref a)])) rfl (by rw [hml]; rfl) (argsL := [(.ref a), (.int (((en + (-1 : Int32)) + (-1 : Int32)) + (-1 : Int32))), (.int fr)]) (rest := []) (lenOf pd_0 rfl) rfl (by show 2 * 0 + _ ≤ _; exact Nat.le_of_eq rfl) (hb hby d5_65) (fun _ _ => ⟨rfl, e47, (by decide : 0 + 0 ≤ _), (by decide : 0 + 0 ≤ _)⟩)
          dsimp only [Pt.U, Pt.locs, Pt.cells, Pt.slots] at X48 l48 y48 z48 st48 hQ48
          subst l48 y48 z48
          obtain ⟨rfl, rfl, e48⟩ := hQ48
          refine Gl.go ?_ st48
          show Gl _ _ _ _ (T48.setTop (mkF m 68 #[.val (.ref a), .val (.int fr), .val (.int en), .val (.int (((en + (-1 : Int32)) + (-1 : Int32)) + (-1 : Int32)))] [(.int (f_closes (((en + (-1 : Int32)) + (-1 : Int32)) + (-1 : Int32)) fr B))]))
          refine Gl.go ?_ (fun t k => XS.ifYes X48.here hx rfl (pc0 := 68) (pc' := 74) rfl (hb hby d5_68) rfl ((if0 _ _).trans (teq hc46).1) (by decide) (by decide) k)
          show Gl _ _ _ _ (T48.setTop (mkF m 74 #[.val (.ref a), .val (.int fr), .val (.int en), .val (.int (((en + (-1 : Int32)) + (-1 : Int32)) + (-1 : Int32)))] []))
          refine Gl.go ?_ (fun t k => XS.iloadN X48.here hx rfl (hb hby d5_74) rfl k)
          show Gl _ _ _ _ (T48.setTop (mkF m 75 #[.val (.ref a), .val (.int fr), .val (.int en), .val (.int (((en + (-1 : Int32)) + (-1 : Int32)) + (-1 : Int32)))] [(.int (((en + (-1 : Int32)) + (-1 : Int32)) + (-1 : Int32)))]))
          obtain ⟨fs, hr, hrun, hended, hW, hsame⟩ := X48.leave (v := some (.int (((en + (-1 : Int32)) + (-1 : Int32)) + (-1 : Int32)))) (fun h => by rw [Bd.returns] at h; cases h) (BodyLoose.notSynchronized Bd)
          exact Gl.mk ⟨_, _, retI X48 hx Bd.returns (hb hby d5_75) hr, hrun, hended, _, _, rfl, ⟨congrArg (fun z => some (Value.int z)) ((if_neg hc25).trans ((if_neg hc33).trans ((if_neg hc40).trans ((if_pos hc46).trans (rfl))))).symm, rfl, e48⟩, ⟨_, rfl⟩, hW, hsame.mono (by decide) (by decide)⟩
        · refine Gl.go ?_ (fun t k => XS.ifNo X45.here hx rfl (hb hby d5_44) rfl ((if0 _ _).trans (feq hc46).1) k)
          show Gl _ _ _ _ (T45.setTop (mkF m 47 #[.val (.ref a), .val (.int fr), .val (.int en), .val (.int (((en + (-1 : Int32)) + (-1 : Int32)) + (-1 : Int32)))] []))
          refine Gl.go ?_ (fun t k => XS.iinc X45.here hx rfl (hb hby d5_47) rfl (l' := #[.val (.ref a), .val (.int fr), .val (.int en), .val (.int ((((en + (-1 : Int32)) + (-1 : Int32)) + (-1 : Int32)) + (-1 : Int32)))]) rfl k)
          show Gl _ _ _ _ (T45.setTop (mkF m 50 #[.val (.ref a), .val (.int fr), .val (.int en), .val (.int ((((en + (-1 : Int32)) + (-1 : Int32)) + (-1 : Int32)) + (-1 : Int32)))] []))
          have hr49 : (((((en + (-1 : Int32)) + (-1 : Int32)) + (-1 : Int32)) + (-1 : Int32))).toInt ≤ 6 := own_down hf hr44 (own_clz hc46)
          refine Gl.go ?_ (fun t k => XS.aloadN X45.here hx rfl (hb hby d5_50) rfl rfl k)
          show Gl _ _ _ _ (T45.setTop (mkF m 51 #[.val (.ref a), .val (.int fr), .val (.int en), .val (.int ((((en + (-1 : Int32)) + (-1 : Int32)) + (-1 : Int32)) + (-1 : Int32)))] [(.ref a)]))
          refine Gl.go ?_ (fun t k => XS.iloadN X45.here hx rfl (hb hby d5_51) rfl k)
          show Gl _ _ _ _ (T45.setTop (mkF m 52 #[.val (.ref a), .val (.int fr), .val (.int en), .val (.int ((((en + (-1 : Int32)) + (-1 : Int32)) + (-1 : Int32)) + (-1 : Int32)))] [(.int ((((en + (-1 : Int32)) + (-1 : Int32)) + (-1 : Int32)) + (-1 : Int32))), (.ref a)]))
          refine Gl.go ?_ (fun t k => XS.iloadN X45.here hx rfl (hb hby d5_52) rfl k)
          show Gl _ _ _ _ (T45.setTop (mkF m 53 #[.val (.ref a), .val (.int fr), .val (.int en), .val (.int ((((en + (-1 : Int32)) + (-1 : Int32)) + (-1 : Int32)) + (-1 : Int32)))] [(.int fr), (.int ((((en + (-1 : Int32)) + (-1 : Int32)) + (-1 : Int32)) + (-1 : Int32))), (.ref a)]))
          obtain ⟨_, _, ⟨T50, L50, k50, n50⟩, -, X50, ⟨Lc50, hQ50, l50, y50, z50⟩, st50⟩ := Jvm.LawKit.callS X45 hx (y := (⟨"com/example/facet/facet/xml/MarkupScannerPlainUntilPinLaw", "closes", "([BII)Z"⟩ : MethodName)) hown (mvT hZ (hw _ (List.mem_of_getElem? (i := 18) rfl))) (mvT hZ (hw _ (List.mem_of_getElem? (i := 19) rfl))) (mvT hZ (hw _ (List.mem_of_getElem? (i := 3) rfl))) (mvT hZ (hw _ (List.mem_of_getElem? (i := 20) rfl))) (by decide) (backOf (W := 0) (rm6 l Z a0 hw [] a ((((en + (-1 : Int32)) + (-1 : Int32)) + (-1 : Int32)) + (-1 : Int32)) fr B h0 hB hf hr49) hZ (hw _ (List.mem_of_getElem? (i := 20) rfl)) (hw _ (List.mem_of_getElem? (i := 3) rfl)) (by decide) (by decide)) (g := (mkF m 53 #[.val (.ref a), .val (.int fr), .val (.int en), .val (.int ((((en + (-1 : Int32)) + (-1 : Int32)) + (-1 : Int32)) + (-1 : Int32)))] [(.int fr), (.int ((((en + (-1 : Int32)) + (-1 : Int32)) + (-1 : Int32)) + (-1 : Int32))), (.ref a)])) rfl (by rw [hml]; rfl) (argsL := [(.ref a), (.int ((((en + (-1 : Int32)) + (-1 : Int32)) + (-1 : Int32)) + (-1 : Int32))), (.int fr)]) (rest := []) (lenOf pd_0 rfl) rfl (by show 2 * 0 + _ ≤ _; exact Nat.le_of_eq rfl) (hb hby d5_53) (fun _ _ => ⟨rfl, e45, (by decide : 0 + 0 ≤ _), (by decide : 0 + 0 ≤ _)⟩)
          dsimp only [Pt.U, Pt.locs, Pt.cells, Pt.slots] at X50 l50 y50 z50 st50 hQ50
          subst l50 y50 z50
          obtain ⟨rfl, rfl, e50⟩ := hQ50
          refine Gl.go ?_ st50
          show Gl _ _ _ _ (T50.setTop (mkF m 56 #[.val (.ref a), .val (.int fr), .val (.int en), .val (.int ((((en + (-1 : Int32)) + (-1 : Int32)) + (-1 : Int32)) + (-1 : Int32)))] [(.int (f_closes ((((en + (-1 : Int32)) + (-1 : Int32)) + (-1 : Int32)) + (-1 : Int32)) fr B))]))
          by_cases hc51 : (f_closes ((((en + (-1 : Int32)) + (-1 : Int32)) + (-1 : Int32)) + (-1 : Int32)) fr B) = (0 : Int32)
          · refine Gl.go ?_ (fun t k => XS.ifYes X50.here hx rfl (pc0 := 56) (pc' := 62) rfl (hb hby d5_56) rfl ((if0 _ _).trans (teq hc51).1) (by decide) (by decide) k)
            show Gl _ _ _ _ (T50.setTop (mkF m 62 #[.val (.ref a), .val (.int fr), .val (.int en), .val (.int ((((en + (-1 : Int32)) + (-1 : Int32)) + (-1 : Int32)) + (-1 : Int32)))] []))
            refine Gl.go ?_ (fun t k => XS.aloadN X50.here hx rfl (hb hby d5_62) rfl rfl k)
            show Gl _ _ _ _ (T50.setTop (mkF m 63 #[.val (.ref a), .val (.int fr), .val (.int en), .val (.int ((((en + (-1 : Int32)) + (-1 : Int32)) + (-1 : Int32)) + (-1 : Int32)))] [(.ref a)]))
            refine Gl.go ?_ (fun t k => XS.iloadN X50.here hx rfl (hb hby d5_63) rfl k)
            show Gl _ _ _ _ (T50.setTop (mkF m 64 #[.val (.ref a), .val (.int fr), .val (.int en), .val (.int ((((en + (-1 : Int32)) + (-1 : Int32)) + (-1 : Int32)) + (-1 : Int32)))] [(.int ((((en + (-1 : Int32)) + (-1 : Int32)) + (-1 : Int32)) + (-1 : Int32))), (.ref a)]))
            refine Gl.go ?_ (fun t k => XS.iloadN X50.here hx rfl (hb hby d5_64) rfl k)
            show Gl _ _ _ _ (T50.setTop (mkF m 65 #[.val (.ref a), .val (.int fr), .val (.int en), .val (.int ((((en + (-1 : Int32)) + (-1 : Int32)) + (-1 : Int32)) + (-1 : Int32)))] [(.int fr), (.int ((((en + (-1 : Int32)) + (-1 : Int32)) + (-1 : Int32)) + (-1 : Int32))), (.ref a)]))
            obtain ⟨_, _, ⟨T52, L52, k52, n52⟩, -, X52, ⟨Lc52, hQ52, l52, y52, z52⟩, st52⟩ := Jvm.LawKit.callS X50 hx (y := (⟨"com/example/facet/facet/xml/MarkupScannerPlainUntilPinLaw", "closes", "([BII)Z"⟩ : MethodName)) hown (mvT hZ (hw _ (List.mem_of_getElem? (i := 18) rfl))) (mvT hZ (hw _ (List.mem_of_getElem? (i := 19) rfl))) (mvT hZ (hw _ (List.mem_of_getElem? (i := 3) rfl))) (mvT hZ (hw _ (List.mem_of_getElem? (i := 20) rfl))) (by decide) (backOf (W := 0) (rm6 l Z a0 hw [] a ((((en + (-1 : Int32)) + (-1 : Int32)) + (-1 : Int32)) + (-1 : Int32)) fr B h0 hB hf hr49) hZ (hw _ (List.mem_of_getElem? (i := 20) rfl)) (hw _ (List.mem_of_getElem? (i := 3) rfl)) (by decide) (by decide)) (g := (mkF m 65 #[.val (.ref a), .val (.int fr), .val (.int en), .val (.int ((((en + (-1 : Int32)) + (-1 : Int32)) + (-1 : Int32)) + (-1 : Int32)))] [(.int fr), (.int ((((en + (-1 : Int32)) + (-1 : Int32)) + (-1 : Int32)) + (-1 : Int32))), (.ref a)])) rfl (by rw [hml]; rfl) (argsL := [(.ref a), (.int ((((en + (-1 : Int32)) + (-1 : Int32)) + (-1 : Int32)) + (-1 : Int32))), (.int fr)]) (rest := []) (lenOf pd_0 rfl) rfl (by show 2 * 0 + _ ≤ _; exact Nat.le_of_eq rfl) (hb hby d5_65) (fun _ _ => ⟨rfl, e50, (by decide : 0 + 0 ≤ _), (by decide : 0 + 0 ≤ _)⟩)
            dsimp only [Pt.U, Pt.locs, Pt.cells, Pt.slots] at X52 l52 y52 z52 st52 hQ52
            subst l52 y52 z52
            obtain ⟨rfl, rfl, e52⟩ := hQ52
            refine Gl.go ?_ st52
            show Gl _ _ _ _ (T52.setTop (mkF m 68 #[.val (.ref a), .val (.int fr), .val (.int en), .val (.int ((((en + (-1 : Int32)) + (-1 : Int32)) + (-1 : Int32)) + (-1 : Int32)))] [(.int (f_closes ((((en + (-1 : Int32)) + (-1 : Int32)) + (-1 : Int32)) + (-1 : Int32)) fr B))]))
            refine Gl.go ?_ (fun t k => XS.ifYes X52.here hx rfl (pc0 := 68) (pc' := 74) rfl (hb hby d5_68) rfl ((if0 _ _).trans (teq hc51).1) (by decide) (by decide) k)
            show Gl _ _ _ _ (T52.setTop (mkF m 74 #[.val (.ref a), .val (.int fr), .val (.int en), .val (.int ((((en + (-1 : Int32)) + (-1 : Int32)) + (-1 : Int32)) + (-1 : Int32)))] []))
            refine Gl.go ?_ (fun t k => XS.iloadN X52.here hx rfl (hb hby d5_74) rfl k)
            show Gl _ _ _ _ (T52.setTop (mkF m 75 #[.val (.ref a), .val (.int fr), .val (.int en), .val (.int ((((en + (-1 : Int32)) + (-1 : Int32)) + (-1 : Int32)) + (-1 : Int32)))] [(.int ((((en + (-1 : Int32)) + (-1 : Int32)) + (-1 : Int32)) + (-1 : Int32)))]))
            obtain ⟨fs, hr, hrun, hended, hW, hsame⟩ := X52.leave (v := some (.int ((((en + (-1 : Int32)) + (-1 : Int32)) + (-1 : Int32)) + (-1 : Int32)))) (fun h => by rw [Bd.returns] at h; cases h) (BodyLoose.notSynchronized Bd)
            exact Gl.mk ⟨_, _, retI X52 hx Bd.returns (hb hby d5_75) hr, hrun, hended, _, _, rfl, ⟨congrArg (fun z => some (Value.int z)) ((if_neg hc25).trans ((if_neg hc33).trans ((if_neg hc40).trans ((if_neg hc46).trans ((if_pos hc51).trans (rfl)))))).symm, rfl, e52⟩, ⟨_, rfl⟩, hW, hsame.mono (by decide) (by decide)⟩
          · refine Gl.go ?_ (fun t k => XS.ifNo X50.here hx rfl (hb hby d5_56) rfl ((if0 _ _).trans (feq hc51).1) k)
            show Gl _ _ _ _ (T50.setTop (mkF m 59 #[.val (.ref a), .val (.int fr), .val (.int en), .val (.int ((((en + (-1 : Int32)) + (-1 : Int32)) + (-1 : Int32)) + (-1 : Int32)))] []))
            refine Gl.go ?_ (fun t k => XS.iinc X50.here hx rfl (hb hby d5_59) rfl (l' := #[.val (.ref a), .val (.int fr), .val (.int en), .val (.int (((((en + (-1 : Int32)) + (-1 : Int32)) + (-1 : Int32)) + (-1 : Int32)) + (-1 : Int32)))]) rfl k)
            show Gl _ _ _ _ (T50.setTop (mkF m 62 #[.val (.ref a), .val (.int fr), .val (.int en), .val (.int (((((en + (-1 : Int32)) + (-1 : Int32)) + (-1 : Int32)) + (-1 : Int32)) + (-1 : Int32)))] []))
            have hr53 : ((((((en + (-1 : Int32)) + (-1 : Int32)) + (-1 : Int32)) + (-1 : Int32)) + (-1 : Int32))).toInt ≤ 6 := own_down hf hr49 (own_clz hc51)
            refine Gl.go ?_ (fun t k => XS.aloadN X50.here hx rfl (hb hby d5_62) rfl rfl k)
            show Gl _ _ _ _ (T50.setTop (mkF m 63 #[.val (.ref a), .val (.int fr), .val (.int en), .val (.int (((((en + (-1 : Int32)) + (-1 : Int32)) + (-1 : Int32)) + (-1 : Int32)) + (-1 : Int32)))] [(.ref a)]))
            refine Gl.go ?_ (fun t k => XS.iloadN X50.here hx rfl (hb hby d5_63) rfl k)
            show Gl _ _ _ _ (T50.setTop (mkF m 64 #[.val (.ref a), .val (.int fr), .val (.int en), .val (.int (((((en + (-1 : Int32)) + (-1 : Int32)) + (-1 : Int32)) + (-1 : Int32)) + (-1 : Int32)))] [(.int (((((en + (-1 : Int32)) + (-1 : Int32)) + (-1 : Int32)) + (-1 : Int32)) + (-1 : Int32))), (.ref a)]))
            refine Gl.go ?_ (fun t k => XS.iloadN X50.here hx rfl (hb hby d5_64) rfl k)
            show Gl _ _ _ _ (T50.setTop (mkF m 65 #[.val (.ref a), .val (.int fr), .val (.int en), .val (.int (((((en + (-1 : Int32)) + (-1 : Int32)) + (-1 : Int32)) + (-1 : Int32)) + (-1 : Int32)))] [(.int fr), (.int (((((en + (-1 : Int32)) + (-1 : Int32)) + (-1 : Int32)) + (-1 : Int32)) + (-1 : Int32))), (.ref a)]))
            obtain ⟨_, _, ⟨T54, L54, k54, n54⟩, -, X54, ⟨Lc54, hQ54, l54, y54, z54⟩, st54⟩ := Jvm.LawKit.callS X50 hx (y := (⟨"com/example/facet/facet/xml/MarkupScannerPlainUntilPinLaw", "closes", "([BII)Z"⟩ : MethodName)) hown (mvT hZ (hw _ (List.mem_of_getElem? (i := 18) rfl))) (mvT hZ (hw _ (List.mem_of_getElem? (i := 19) rfl))) (mvT hZ (hw _ (List.mem_of_getElem? (i := 3) rfl))) (mvT hZ (hw _ (List.mem_of_getElem? (i := 20) rfl))) (by decide) (backOf (W := 0) (rm6 l Z a0 hw [] a (((((en + (-1 : Int32)) + (-1 : Int32)) + (-1 : Int32)) + (-1 : Int32)) + (-1 : Int32)) fr B h0 hB hf hr53) hZ (hw _ (List.mem_of_getElem? (i := 20) rfl)) (hw _ (List.mem_of_getElem? (i := 3) rfl)) (by decide) (by decide)) (g := (mkF m 65 #[.val (.ref a), .val (.int fr), .val (.int en), .val (.int (((((en + (-1 : Int32)) + (-1 : Int32)) + (-1 : Int32)) + (-1 : Int32)) + (-1 : Int32)))] [(.int fr), (.int (((((en + (-1 : Int32)) + (-1 : Int32)) + (-1 : Int32)) + (-1 : Int32)) + (-1 : Int32))), (.ref a)])) rfl (by rw [hml]; rfl) (argsL := [(.ref a), (.int (((((en + (-1 : Int32)) + (-1 : Int32)) + (-1 : Int32)) + (-1 : Int32)) + (-1 : Int32))), (.int fr)]) (rest := []) (lenOf pd_0 rfl) rfl (by show 2 * 0 + _ ≤ _; exact Nat.le_of_eq rfl) (hb hby d5_65) (fun _ _ => ⟨rfl, e50, (by decide : 0 + 0 ≤ _), (by decide : 0 + 0 ≤ _)⟩)
            dsimp only [Pt.U, Pt.locs, Pt.cells, Pt.slots] at X54 l54 y54 z54 st54 hQ54
            subst l54 y54 z54
            obtain ⟨rfl, rfl, e54⟩ := hQ54
            refine Gl.go ?_ st54
            show Gl _ _ _ _ (T54.setTop (mkF m 68 #[.val (.ref a), .val (.int fr), .val (.int en), .val (.int (((((en + (-1 : Int32)) + (-1 : Int32)) + (-1 : Int32)) + (-1 : Int32)) + (-1 : Int32)))] [(.int (f_closes (((((en + (-1 : Int32)) + (-1 : Int32)) + (-1 : Int32)) + (-1 : Int32)) + (-1 : Int32)) fr B))]))
            by_cases hc55 : (f_closes (((((en + (-1 : Int32)) + (-1 : Int32)) + (-1 : Int32)) + (-1 : Int32)) + (-1 : Int32)) fr B) = (0 : Int32)
            · refine Gl.go ?_ (fun t k => XS.ifYes X54.here hx rfl (pc0 := 68) (pc' := 74) rfl (hb hby d5_68) rfl ((if0 _ _).trans (teq hc55).1) (by decide) (by decide) k)
              show Gl _ _ _ _ (T54.setTop (mkF m 74 #[.val (.ref a), .val (.int fr), .val (.int en), .val (.int (((((en + (-1 : Int32)) + (-1 : Int32)) + (-1 : Int32)) + (-1 : Int32)) + (-1 : Int32)))] []))
              refine Gl.go ?_ (fun t k => XS.iloadN X54.here hx rfl (hb hby d5_74) rfl k)
              show Gl _ _ _ _ (T54.setTop (mkF m 75 #[.val (.ref a), .val (.int fr), .val (.int en), .val (.int (((((en + (-1 : Int32)) + (-1 : Int32)) + (-1 : Int32)) + (-1 : Int32)) + (-1 : Int32)))] [(.int (((((en + (-1 : Int32)) + (-1 : Int32)) + (-1 : Int32)) + (-1 : Int32)) + (-1 : Int32)))]))
              obtain ⟨fs, hr, hrun, hended, hW, hsame⟩ := X54.leave (v := some (.int (((((en + (-1 : Int32)) + (-1 : Int32)) + (-1 : Int32)) + (-1 : Int32)) + (-1 : Int32)))) (fun h => by rw [Bd.returns] at h; cases h) (BodyLoose.notSynchronized Bd)
              exact Gl.mk ⟨_, _, retI X54 hx Bd.returns (hb hby d5_75) hr, hrun, hended, _, _, rfl, ⟨congrArg (fun z => some (Value.int z)) ((if_neg hc25).trans ((if_neg hc33).trans ((if_neg hc40).trans ((if_neg hc46).trans ((if_neg hc51).trans ((if_pos hc55).trans (rfl))))))).symm, rfl, e54⟩, ⟨_, rfl⟩, hW, hsame.mono (by decide) (by decide)⟩
            · refine Gl.go ?_ (fun t k => XS.ifNo X54.here hx rfl (hb hby d5_68) rfl ((if0 _ _).trans (feq hc55).1) k)
              show Gl _ _ _ _ (T54.setTop (mkF m 71 #[.val (.ref a), .val (.int fr), .val (.int en), .val (.int (((((en + (-1 : Int32)) + (-1 : Int32)) + (-1 : Int32)) + (-1 : Int32)) + (-1 : Int32)))] []))
              refine Gl.go ?_ (fun t k => XS.iinc X54.here hx rfl (hb hby d5_71) rfl (l' := #[.val (.ref a), .val (.int fr), .val (.int en), .val (.int ((((((en + (-1 : Int32)) + (-1 : Int32)) + (-1 : Int32)) + (-1 : Int32)) + (-1 : Int32)) + (-1 : Int32)))]) rfl k)
              show Gl _ _ _ _ (T54.setTop (mkF m 74 #[.val (.ref a), .val (.int fr), .val (.int en), .val (.int ((((((en + (-1 : Int32)) + (-1 : Int32)) + (-1 : Int32)) + (-1 : Int32)) + (-1 : Int32)) + (-1 : Int32)))] []))
              refine Gl.go ?_ (fun t k => XS.iloadN X54.here hx rfl (hb hby d5_74) rfl k)
              show Gl _ _ _ _ (T54.setTop (mkF m 75 #[.val (.ref a), .val (.int fr), .val (.int en), .val (.int ((((((en + (-1 : Int32)) + (-1 : Int32)) + (-1 : Int32)) + (-1 : Int32)) + (-1 : Int32)) + (-1 : Int32)))] [(.int ((((((en + (-1 : Int32)) + (-1 : Int32)) + (-1 : Int32)) + (-1 : Int32)) + (-1 : Int32)) + (-1 : Int32)))]))
              obtain ⟨fs, hr, hrun, hended, hW, hsame⟩ := X54.leave (v := some (.int ((((((en + (-1 : Int32)) + (-1 : Int32)) + (-1 : Int32)) + (-1 : Int32)) + (-1 : Int32)) + (-1 : Int32)))) (fun h => by rw [Bd.returns] at h; cases h) (BodyLoose.notSynchronized Bd)
              exact Gl.mk ⟨_, _, retI X54 hx Bd.returns (hb hby d5_75) hr, hrun, hended, _, _, rfl, ⟨congrArg (fun z => some (Value.int z)) ((if_neg hc25).trans ((if_neg hc33).trans ((if_neg hc40).trans ((if_neg hc46).trans ((if_neg hc51).trans ((if_neg hc55).trans (rfl))))))).symm, rfl, e54⟩, ⟨_, rfl⟩, hW, hsame.mono (by decide) (by decide)⟩
theorem own_two {p en : Int32} (h0 : 0 ≤ p.toInt) (hE : en.toInt ≤ 6) (h : p < en) : 0 ≤ (p + (2 : Int32)).toInt ∧ (p + (2 : Int32)).toInt ≤ 1000 := by
  rw [Int32.lt_iff_toInt_lt] at h
  rw [own_add (c := 2) rfl (by omega) (by omega) (by decide) (by decide)]; omega
theorem own_one1 {p en : Int32} (h0 : 0 ≤ p.toInt) (hE : en.toInt ≤ 6) (h : p < en) : 0 ≤ (p + (1 : Int32)).toInt := by
  rw [Int32.lt_iff_toInt_lt] at h
  exact own_addn (c := 1) rfl h0 (by omega) (by decide) (by decide)
theorem own_first_nn {ik en : Int32} {B : Int32 → Int32} (h0 : 0 ≤ ik.toInt) (h1 : ik.toInt ≤ 1000) (hE : 0 ≤ en.toInt) : 0 ≤ (f_first ik en B).toInt := by
  unfold f_first
  repeat' split
  all_goals first | assumption | exact own_addn (c := 1) rfl h0 h1 (by decide) (by decide) | exact own_addn (c := 2) rfl h0 h1 (by decide) (by decide) | exact own_addn (c := 3) rfl h0 h1 (by decide) (by decide) | exact own_addn (c := 4) rfl h0 h1 (by decide) (by decide) | exact own_addn (c := 5) rfl h0 h1 (by decide) (by decide)
theorem d2_0 : decode method_9_code 0 = .ok (.aload_n 0, 1) := by decide +kernel
theorem d2_1 : decode method_9_code 1 = .ok (.iload_n 1, 1) := by decide +kernel
theorem d2_2 : decode method_9_code 2 = .ok (.iload_n 2, 1) := by decide +kernel
theorem d2_3 : decode method_9_code 3 = .ok (.invokestatic 30, 3) := by decide +kernel
theorem d2_6 : decode method_9_code 6 = .ok (.istore_n 3, 1) := by decide +kernel
theorem d2_7 : decode method_9_code 7 = .ok (.iload_n 3, 1) := by decide +kernel
theorem d2_8 : decode method_9_code 8 = .ok (.iload_n 2, 1) := by decide +kernel
theorem d2_9 : decode method_9_code 9 = .ok (.if_icmp .lt 10, 3) := by decide +kernel
theorem d2_12 : decode method_9_code 12 = .ok (.aload_n 0, 1) := by decide +kernel
theorem d2_13 : decode method_9_code 13 = .ok (.iload_n 1, 1) := by decide +kernel
theorem d2_14 : decode method_9_code 14 = .ok (.iload_n 2, 1) := by decide +kernel
theorem d2_15 : decode method_9_code 15 = .ok (.invokestatic 33, 3) := by decide +kernel
theorem d2_18 : decode method_9_code 18 = .ok (.ireturn, 1) := by decide +kernel
theorem d2_19 : decode method_9_code 19 = .ok (.aload_n 0, 1) := by decide +kernel
theorem d2_20 : decode method_9_code 20 = .ok (.iload_n 3, 1) := by decide +kernel
theorem d2_21 : decode method_9_code 21 = .ok (.iload_n 2, 1) := by decide +kernel
theorem d2_22 : decode method_9_code 22 = .ok (.invokestatic 36, 3) := by decide +kernel
theorem d2_25 : decode method_9_code 25 = .ok (.ifCond .eq 5, 3) := by decide +kernel
theorem d2_28 : decode method_9_code 28 = .ok (.iload_n 3, 1) := by decide +kernel
theorem d2_29 : decode method_9_code 29 = .ok (.ireturn, 1) := by decide +kernel
theorem d2_30 : decode method_9_code 30 = .ok (.aload_n 0, 1) := by decide +kernel
theorem d2_31 : decode method_9_code 31 = .ok (.iload_n 3, 1) := by decide +kernel
theorem d2_32 : decode method_9_code 32 = .ok (.iconst 2, 1) := by decide +kernel
theorem d2_33 : decode method_9_code 33 = .ok (.iadd, 1) := by decide +kernel
theorem d2_34 : decode method_9_code 34 = .ok (.iload_n 2, 1) := by decide +kernel
theorem d2_35 : decode method_9_code 35 = .ok (.invokestatic 30, 3) := by decide +kernel
theorem d2_38 : decode method_9_code 38 = .ok (.istore 4, 2) := by decide +kernel
theorem d2_40 : decode method_9_code 40 = .ok (.iload 4, 2) := by decide +kernel
theorem d2_42 : decode method_9_code 42 = .ok (.iload_n 2, 1) := by decide +kernel
theorem d2_43 : decode method_9_code 43 = .ok (.if_icmp .lt 5, 3) := by decide +kernel
theorem d2_46 : decode method_9_code 46 = .ok (.iload_n 3, 1) := by decide +kernel
theorem d2_47 : decode method_9_code 47 = .ok (.ireturn, 1) := by decide +kernel
theorem d2_48 : decode method_9_code 48 = .ok (.aload_n 0, 1) := by decide +kernel
theorem d2_49 : decode method_9_code 49 = .ok (.iload 4, 2) := by decide +kernel
theorem d2_51 : decode method_9_code 51 = .ok (.iload_n 2, 1) := by decide +kernel
theorem d2_52 : decode method_9_code 52 = .ok (.invokestatic 36, 3) := by decide +kernel
theorem d2_55 : decode method_9_code 55 = .ok (.ifCond .eq 6, 3) := by decide +kernel
theorem d2_58 : decode method_9_code 58 = .ok (.iload 4, 2) := by decide +kernel
theorem d2_60 : decode method_9_code 60 = .ok (.ireturn, 1) := by decide +kernel
theorem d2_61 : decode method_9_code 61 = .ok (.aload_n 0, 1) := by decide +kernel
theorem d2_62 : decode method_9_code 62 = .ok (.iload 4, 2) := by decide +kernel
theorem d2_64 : decode method_9_code 64 = .ok (.iconst 2, 1) := by decide +kernel
theorem d2_65 : decode method_9_code 65 = .ok (.iadd, 1) := by decide +kernel
theorem d2_66 : decode method_9_code 66 = .ok (.iload_n 2, 1) := by decide +kernel
theorem d2_67 : decode method_9_code 67 = .ok (.invokestatic 30, 3) := by decide +kernel
theorem d2_70 : decode method_9_code 70 = .ok (.istore 5, 2) := by decide +kernel
theorem d2_72 : decode method_9_code 72 = .ok (.iload 5, 2) := by decide +kernel
theorem d2_74 : decode method_9_code 74 = .ok (.iload_n 2, 1) := by decide +kernel
theorem d2_75 : decode method_9_code 75 = .ok (.if_icmp .lt 6, 3) := by decide +kernel
theorem d2_78 : decode method_9_code 78 = .ok (.iload 4, 2) := by decide +kernel
theorem d2_80 : decode method_9_code 80 = .ok (.ireturn, 1) := by decide +kernel
theorem d2_81 : decode method_9_code 81 = .ok (.iload 5, 2) := by decide +kernel
theorem d2_83 : decode method_9_code 83 = .ok (.ireturn, 1) := by decide +kernel
theorem pn_2 : plainName "com/example/facet/facet/xml/MarkupScannerPlainUntilPinLaw" = true := by first | (simp [plainName, overriddenIn]; done) | decide +kernel
theorem pd_1 : parseMethodDescriptor "([BII)I" = some ⟨[(.array .byte), .int, .int], some .int⟩ := by decide +kernel
def f_exp (fr en : Int32) (B : Int32 → Int32) : Int32 := (if (f_first fr en B) < en then (if (f_stops (f_first fr en B) en B) = (0 : Int32) then (if (f_first ((f_first fr en B) + (2 : Int32)) en B) < en then (if (f_stops (f_first ((f_first fr en B) + (2 : Int32)) en B) en B) = (0 : Int32) then (if (f_first ((f_first ((f_first fr en B) + (2 : Int32)) en B) + (2 : Int32)) en B) < en then (f_first ((f_first ((f_first fr en B) + (2 : Int32)) en B) + (2 : Int32)) en B) else (f_first ((f_first fr en B) + (2 : Int32)) en B)) else (f_first ((f_first fr en B) + (2 : Int32)) en B)) else (f_first fr en B)) else (f_first fr en B)) else (f_trim fr en B))
theorem ef_rm2 (m : MethodId) (x0 : Addr) (x1 : Int32) (x2 : Int32) : entryFrame m #[(.ref x0), (.int x1), (.int x2)] 6 = mkF m 0 #[.val (.ref x0), .val (.int x1), .val (.int x2), .unset, .unset, .unset] [] := by first | (simp [entryFrame, mkF, argsToLocals, Value.category]; done) | rfl
set_option maxRecDepth 65536 in
set_option maxHeartbeats 40000000 in
theorem rm2 (l : Launch) (Z : State) (a0 : Array Value) (hw : ∀ d ∈ tables_1, d.before a0 Z = true) (ws : List Jvm.Cond) (a : Addr) (fr : Int32) (en : Int32) (B : Int32 → Int32) (h0 : Heap) (hB : BA Z h0 a .byte (6 : Int32) B) (hf : 0 ≤ fr.toInt) (hfe : fr.toInt ≤ en.toInt) (hE0 : 0 ≤ en.toInt) (hE : en.toInt ≤ 6) :
    MetFree l (⟨"com/example/facet/facet/xml/MarkupScannerPlainUntilPinLaw", "expected", "([BII)I"⟩ : MethodName) (head1 (Jvm.Cond.code (⟨"com/example/facet/facet/xml/MarkupScannerPlainUntilPinLaw", "expected", "([BII)I"⟩ : MethodName) method_9_code 6 (some .int) :: ws) ({ frames := 2, cells := 0, slots := 0, locals := 29 } : Room)) (fun aQ U => aQ = #[(.ref a), (.int fr), (.int en)] ∧ Z.Warmed39 U.vm ∧ U.heap = h0) (fun _ _ _ _ _ => True) (fun _ U o U' => ∃ vQ LQ, o = .returned vQ ∧ PQ (some (.int (f_exp fr en B))) h0 vQ U'.heap LQ ∧ FrameEnd U o U' LQ ({ frames := 2, cells := 0, slots := 0, locals := 29 } : Room).cells ({ frames := 2, cells := 0, slots := 0, locals := 29 } : Room).slots) := by
  refine MetFree.of_bodySF (plainFor_of_name pn_2) hisR ?_
  intro p e s m args below meth c s₁ Bd hml0 hP hK
  obtain ⟨rfl, hZ, hh⟩ := hP
  have hx := Bd.exec
  have hby := Bd.bytes
  have hml : c.maxLocals = 6 := hml0
  have hown : s.vm.findClass "com/example/facet/facet/xml/MarkupScannerPlainUntilPinLaw" = some m.cls := findClass_of_methodNamed Bd.named
  have hnm := (name_of_methodNamed Bd.named Bd.method).1
  have X0 : Stand p l e ({ frames := 2, cells := 0, slots := 0, locals := 29 } : Room) s m #[(.ref a), (.int fr), (.int en)] below meth c s₁ [] 0 0 := Stand.of_body Bd
  have e0 : s₁.heap = h0 := by rw [← hh, Bd.state]; rfl
  refine Gl.out ?_
  refine Gl.go ?_ (fun t k => castTop (ef_rm2 m a fr en) k)
  show Gl _ _ _ _ (s₁.setTop (mkF m 0 #[.val (.ref a), .val (.int fr), .val (.int en), .unset, .unset, .unset] []))
  refine Gl.go ?_ (fun t k => XS.aloadN X0.here hx rfl (hb hby d2_0) rfl rfl k)
  show Gl _ _ _ _ (s₁.setTop (mkF m 1 #[.val (.ref a), .val (.int fr), .val (.int en), .unset, .unset, .unset] [(.ref a)]))
  refine Gl.go ?_ (fun t k => XS.iloadN X0.here hx rfl (hb hby d2_1) rfl k)
  show Gl _ _ _ _ (s₁.setTop (mkF m 2 #[.val (.ref a), .val (.int fr), .val (.int en), .unset, .unset, .unset] [(.int fr), (.ref a)]))
  refine Gl.go ?_ (fun t k => XS.iloadN X0.here hx rfl (hb hby d2_2) rfl k)
  show Gl _ _ _ _ (s₁.setTop (mkF m 3 #[.val (.ref a), .val (.int fr), .val (.int en), .unset, .unset, .unset] [(.int en), (.int fr), (.ref a)]))
  obtain ⟨_, _, ⟨T56, L56, k56, n56⟩, -, X56, ⟨Lc56, hQ56, l56, y56, z56⟩, st56⟩ := Jvm.LawKit.callS X0 hx (y := (⟨"com/example/facet/facet/xml/MarkupScannerPlainUntilPinLaw", "firstLt", "([BII)I"⟩ : MethodName)) hown (mvT hZ (hw _ (List.mem_of_getElem? (i := 9) rfl))) (mvT hZ (hw _ (List.mem_of_getElem? (i := 10) rfl))) (mvT hZ (hw _ (List.mem_of_getElem? (i := 3) rfl))) (mvT hZ (hw _ (List.mem_of_getElem? (i := 11) rfl))) (by decide) (backOf (W := 0) (rm3 l Z a0 hw [] a fr en B h0 hB hf (by omega) hE) hZ (hw _ (List.mem_of_getElem? (i := 11) rfl)) (hw _ (List.mem_of_getElem? (i := 3) rfl)) (by decide) (by decide)) (g := (mkF m 3 #[.val (.ref a), .val (.int fr), .val (.int en), .unset, .unset, .unset] [(.int en), (.int fr), (.ref a)])) rfl (by rw [hml]; rfl) (argsL := [(.ref a), (.int fr), (.int en)]) (rest := []) (lenOf pd_1 rfl) rfl (by show 2 * 0 + _ ≤ _; exact Nat.le_of_eq rfl) (hb hby d2_3) (fun _ _ => ⟨rfl, e0, (by decide : 0 + 0 ≤ _), (by decide : 0 + 0 ≤ _)⟩)
  dsimp only [Pt.U, Pt.locs, Pt.cells, Pt.slots] at X56 l56 y56 z56 st56 hQ56
  subst l56 y56 z56
  obtain ⟨rfl, rfl, e56⟩ := hQ56
  refine Gl.go ?_ st56
  show Gl _ _ _ _ (T56.setTop (mkF m 6 #[.val (.ref a), .val (.int fr), .val (.int en), .unset, .unset, .unset] [(.int (f_first fr en B))]))
  refine Gl.go ?_ (fun t k => XS.istoreN X56.here hx rfl (hb hby d2_6) rfl (l' := #[.val (.ref a), .val (.int fr), .val (.int en), .val (.int (f_first fr en B)), .unset, .unset]) rfl k)
  show Gl _ _ _ _ (T56.setTop (mkF m 7 #[.val (.ref a), .val (.int fr), .val (.int en), .val (.int (f_first fr en B)), .unset, .unset] []))
  refine Gl.go ?_ (fun t k => XS.iloadN X56.here hx rfl (hb hby d2_7) rfl k)
  show Gl _ _ _ _ (T56.setTop (mkF m 8 #[.val (.ref a), .val (.int fr), .val (.int en), .val (.int (f_first fr en B)), .unset, .unset] [(.int (f_first fr en B))]))
  refine Gl.go ?_ (fun t k => XS.iloadN X56.here hx rfl (hb hby d2_8) rfl k)
  show Gl _ _ _ _ (T56.setTop (mkF m 9 #[.val (.ref a), .val (.int fr), .val (.int en), .val (.int (f_first fr en B)), .unset, .unset] [(.int en), (.int (f_first fr en B))]))
  by_cases hc57 : (f_first fr en B) < en
  · refine Gl.go ?_ (fun t k => XS.icmpYes X56.here hx rfl (pc0 := 9) (pc' := 19) rfl (hb hby d2_9) rfl (tlt hc57).1 (by decide) (by decide) k)
    show Gl _ _ _ _ (T56.setTop (mkF m 19 #[.val (.ref a), .val (.int fr), .val (.int en), .val (.int (f_first fr en B)), .unset, .unset] []))
    refine Gl.go ?_ (fun t k => XS.aloadN X56.here hx rfl (hb hby d2_19) rfl rfl k)
    show Gl _ _ _ _ (T56.setTop (mkF m 20 #[.val (.ref a), .val (.int fr), .val (.int en), .val (.int (f_first fr en B)), .unset, .unset] [(.ref a)]))
    refine Gl.go ?_ (fun t k => XS.iloadN X56.here hx rfl (hb hby d2_20) rfl k)
    show Gl _ _ _ _ (T56.setTop (mkF m 21 #[.val (.ref a), .val (.int fr), .val (.int en), .val (.int (f_first fr en B)), .unset, .unset] [(.int (f_first fr en B)), (.ref a)]))
    refine Gl.go ?_ (fun t k => XS.iloadN X56.here hx rfl (hb hby d2_21) rfl k)
    show Gl _ _ _ _ (T56.setTop (mkF m 22 #[.val (.ref a), .val (.int fr), .val (.int en), .val (.int (f_first fr en B)), .unset, .unset] [(.int en), (.int (f_first fr en B)), (.ref a)]))
    obtain ⟨_, _, ⟨T58, L58, k58, n58⟩, -, X58, ⟨Lc58, hQ58, l58, y58, z58⟩, st58⟩ := Jvm.LawKit.callS X56 hx (y := (⟨"com/example/facet/facet/xml/MarkupScannerPlainUntilPinLaw", "stops", "([BII)Z"⟩ : MethodName)) hown (mvT hZ (hw _ (List.mem_of_getElem? (i := 25) rfl))) (mvT hZ (hw _ (List.mem_of_getElem? (i := 26) rfl))) (mvT hZ (hw _ (List.mem_of_getElem? (i := 3) rfl))) (mvT hZ (hw _ (List.mem_of_getElem? (i := 27) rfl))) (by decide) (backOf (W := 0) (rm8 l Z a0 hw [] a (f_first fr en B) en B h0 hB (own_one1 (own_first_nn hf (by omega) hE0) hE hc57) hE) hZ (hw _ (List.mem_of_getElem? (i := 27) rfl)) (hw _ (List.mem_of_getElem? (i := 3) rfl)) (by decide) (by decide)) (g := (mkF m 22 #[.val (.ref a), .val (.int fr), .val (.int en), .val (.int (f_first fr en B)), .unset, .unset] [(.int en), (.int (f_first fr en B)), (.ref a)])) rfl (by rw [hml]; rfl) (argsL := [(.ref a), (.int (f_first fr en B)), (.int en)]) (rest := []) (lenOf pd_0 rfl) rfl (by show 2 * 0 + _ ≤ _; exact Nat.le_of_eq rfl) (hb hby d2_22) (fun _ _ => ⟨rfl, e56, (by decide : 0 + 0 ≤ _), (by decide : 0 + 0 ≤ _)⟩)
    dsimp only [Pt.U, Pt.locs, Pt.cells, Pt.slots] at X58 l58 y58 z58 st58 hQ58
    subst l58 y58 z58
    obtain ⟨rfl, rfl, e58⟩ := hQ58
    refine Gl.go ?_ st58
    show Gl _ _ _ _ (T58.setTop (mkF m 25 #[.val (.ref a), .val (.int fr), .val (.int en), .val (.int (f_first fr en B)), .unset, .unset] [(.int (f_stops (f_first fr en B) en B))]))
    by_cases hc59 : (f_stops (f_first fr en B) en B) = (0 : Int32)
    · refine Gl.go ?_ (fun t k => XS.ifYes X58.here hx rfl (pc0 := 25) (pc' := 30) rfl (hb hby d2_25) rfl ((if0 _ _).trans (teq hc59).1) (by decide) (by decide) k)
      show Gl _ _ _ _ (T58.setTop (mkF m 30 #[.val (.ref a), .val (.int fr), .val (.int en), .val (.int (f_first fr en B)), .unset, .unset] []))
      refine Gl.go ?_ (fun t k => XS.aloadN X58.here hx rfl (hb hby d2_30) rfl rfl k)
      show Gl _ _ _ _ (T58.setTop (mkF m 31 #[.val (.ref a), .val (.int fr), .val (.int en), .val (.int (f_first fr en B)), .unset, .unset] [(.ref a)]))
      refine Gl.go ?_ (fun t k => XS.iloadN X58.here hx rfl (hb hby d2_31) rfl k)
      show Gl _ _ _ _ (T58.setTop (mkF m 32 #[.val (.ref a), .val (.int fr), .val (.int en), .val (.int (f_first fr en B)), .unset, .unset] [(.int (f_first fr en B)), (.ref a)]))
      refine Gl.go ?_ (fun t k => XS.iconst X58.here hx rfl (hb hby d2_32) k)
      show Gl _ _ _ _ (T58.setTop (mkF m 33 #[.val (.ref a), .val (.int fr), .val (.int en), .val (.int (f_first fr en B)), .unset, .unset] [(.int (2 : Int32)), (.int (f_first fr en B)), (.ref a)]))
      refine Gl.go ?_ (fun t k => XS.iadd X58.here hx rfl (hb hby d2_33) rfl k)
      show Gl _ _ _ _ (T58.setTop (mkF m 34 #[.val (.ref a), .val (.int fr), .val (.int en), .val (.int (f_first fr en B)), .unset, .unset] [(.int ((f_first fr en B) + (2 : Int32))), (.ref a)]))
      refine Gl.go ?_ (fun t k => XS.iloadN X58.here hx rfl (hb hby d2_34) rfl k)
      show Gl _ _ _ _ (T58.setTop (mkF m 35 #[.val (.ref a), .val (.int fr), .val (.int en), .val (.int (f_first fr en B)), .unset, .unset] [(.int en), (.int ((f_first fr en B) + (2 : Int32))), (.ref a)]))
      have hb60 := own_two (own_first_nn hf (by omega) hE0) hE hc57
      obtain ⟨_, _, ⟨T61, L61, k61, n61⟩, -, X61, ⟨Lc61, hQ61, l61, y61, z61⟩, st61⟩ := Jvm.LawKit.callS X58 hx (y := (⟨"com/example/facet/facet/xml/MarkupScannerPlainUntilPinLaw", "firstLt", "([BII)I"⟩ : MethodName)) hown (mvT hZ (hw _ (List.mem_of_getElem? (i := 9) rfl))) (mvT hZ (hw _ (List.mem_of_getElem? (i := 10) rfl))) (mvT hZ (hw _ (List.mem_of_getElem? (i := 3) rfl))) (mvT hZ (hw _ (List.mem_of_getElem? (i := 11) rfl))) (by decide) (backOf (W := 0) (rm3 l Z a0 hw [] a ((f_first fr en B) + (2 : Int32)) en B h0 hB hb60.1 hb60.2 hE) hZ (hw _ (List.mem_of_getElem? (i := 11) rfl)) (hw _ (List.mem_of_getElem? (i := 3) rfl)) (by decide) (by decide)) (g := (mkF m 35 #[.val (.ref a), .val (.int fr), .val (.int en), .val (.int (f_first fr en B)), .unset, .unset] [(.int en), (.int ((f_first fr en B) + (2 : Int32))), (.ref a)])) rfl (by rw [hml]; rfl) (argsL := [(.ref a), (.int ((f_first fr en B) + (2 : Int32))), (.int en)]) (rest := []) (lenOf pd_1 rfl) rfl (by show 2 * 0 + _ ≤ _; exact Nat.le_of_eq rfl) (hb hby d2_35) (fun _ _ => ⟨rfl, e58, (by decide : 0 + 0 ≤ _), (by decide : 0 + 0 ≤ _)⟩)
      dsimp only [Pt.U, Pt.locs, Pt.cells, Pt.slots] at X61 l61 y61 z61 st61 hQ61
      subst l61 y61 z61
      obtain ⟨rfl, rfl, e61⟩ := hQ61
      refine Gl.go ?_ st61
      show Gl _ _ _ _ (T61.setTop (mkF m 38 #[.val (.ref a), .val (.int fr), .val (.int en), .val (.int (f_first fr en B)), .unset, .unset] [(.int (f_first ((f_first fr en B) + (2 : Int32)) en B))]))
      refine Gl.go ?_ (fun t k => XS.istore X61.here hx rfl (hb hby d2_38) rfl (l' := #[.val (.ref a), .val (.int fr), .val (.int en), .val (.int (f_first fr en B)), .val (.int (f_first ((f_first fr en B) + (2 : Int32)) en B)), .unset]) rfl k)
      show Gl _ _ _ _ (T61.setTop (mkF m 40 #[.val (.ref a), .val (.int fr), .val (.int en), .val (.int (f_first fr en B)), .val (.int (f_first ((f_first fr en B) + (2 : Int32)) en B)), .unset] []))
      refine Gl.go ?_ (fun t k => XS.iload X61.here hx rfl (hb hby d2_40) rfl k)
      show Gl _ _ _ _ (T61.setTop (mkF m 42 #[.val (.ref a), .val (.int fr), .val (.int en), .val (.int (f_first fr en B)), .val (.int (f_first ((f_first fr en B) + (2 : Int32)) en B)), .unset] [(.int (f_first ((f_first fr en B) + (2 : Int32)) en B))]))
      refine Gl.go ?_ (fun t k => XS.iloadN X61.here hx rfl (hb hby d2_42) rfl k)
      show Gl _ _ _ _ (T61.setTop (mkF m 43 #[.val (.ref a), .val (.int fr), .val (.int en), .val (.int (f_first fr en B)), .val (.int (f_first ((f_first fr en B) + (2 : Int32)) en B)), .unset] [(.int en), (.int (f_first ((f_first fr en B) + (2 : Int32)) en B))]))
      by_cases hc62 : (f_first ((f_first fr en B) + (2 : Int32)) en B) < en
      · refine Gl.go ?_ (fun t k => XS.icmpYes X61.here hx rfl (pc0 := 43) (pc' := 48) rfl (hb hby d2_43) rfl (tlt hc62).1 (by decide) (by decide) k)
        show Gl _ _ _ _ (T61.setTop (mkF m 48 #[.val (.ref a), .val (.int fr), .val (.int en), .val (.int (f_first fr en B)), .val (.int (f_first ((f_first fr en B) + (2 : Int32)) en B)), .unset] []))
        refine Gl.go ?_ (fun t k => XS.aloadN X61.here hx rfl (hb hby d2_48) rfl rfl k)
        show Gl _ _ _ _ (T61.setTop (mkF m 49 #[.val (.ref a), .val (.int fr), .val (.int en), .val (.int (f_first fr en B)), .val (.int (f_first ((f_first fr en B) + (2 : Int32)) en B)), .unset] [(.ref a)]))
        refine Gl.go ?_ (fun t k => XS.iload X61.here hx rfl (hb hby d2_49) rfl k)
        show Gl _ _ _ _ (T61.setTop (mkF m 51 #[.val (.ref a), .val (.int fr), .val (.int en), .val (.int (f_first fr en B)), .val (.int (f_first ((f_first fr en B) + (2 : Int32)) en B)), .unset] [(.int (f_first ((f_first fr en B) + (2 : Int32)) en B)), (.ref a)]))
        refine Gl.go ?_ (fun t k => XS.iloadN X61.here hx rfl (hb hby d2_51) rfl k)
        show Gl _ _ _ _ (T61.setTop (mkF m 52 #[.val (.ref a), .val (.int fr), .val (.int en), .val (.int (f_first fr en B)), .val (.int (f_first ((f_first fr en B) + (2 : Int32)) en B)), .unset] [(.int en), (.int (f_first ((f_first fr en B) + (2 : Int32)) en B)), (.ref a)]))
        obtain ⟨_, _, ⟨T63, L63, k63, n63⟩, -, X63, ⟨Lc63, hQ63, l63, y63, z63⟩, st63⟩ := Jvm.LawKit.callS X61 hx (y := (⟨"com/example/facet/facet/xml/MarkupScannerPlainUntilPinLaw", "stops", "([BII)Z"⟩ : MethodName)) hown (mvT hZ (hw _ (List.mem_of_getElem? (i := 25) rfl))) (mvT hZ (hw _ (List.mem_of_getElem? (i := 26) rfl))) (mvT hZ (hw _ (List.mem_of_getElem? (i := 3) rfl))) (mvT hZ (hw _ (List.mem_of_getElem? (i := 27) rfl))) (by decide) (backOf (W := 0) (rm8 l Z a0 hw [] a (f_first ((f_first fr en B) + (2 : Int32)) en B) en B h0 hB (own_one1 (own_first_nn hb60.1 hb60.2 hE0) hE hc62) hE) hZ (hw _ (List.mem_of_getElem? (i := 27) rfl)) (hw _ (List.mem_of_getElem? (i := 3) rfl)) (by decide) (by decide)) (g := (mkF m 52 #[.val (.ref a), .val (.int fr), .val (.int en), .val (.int (f_first fr en B)), .val (.int (f_first ((f_first fr en B) + (2 : Int32)) en B)), .unset] [(.int en), (.int (f_first ((f_first fr en B) + (2 : Int32)) en B)), (.ref a)])) rfl (by rw [hml]; rfl) (argsL := [(.ref a), (.int (f_first ((f_first fr en B) + (2 : Int32)) en B)), (.int en)]) (rest := []) (lenOf pd_0 rfl) rfl (by show 2 * 0 + _ ≤ _; exact Nat.le_of_eq rfl) (hb hby d2_52) (fun _ _ => ⟨rfl, e61, (by decide : 0 + 0 ≤ _), (by decide : 0 + 0 ≤ _)⟩)
        dsimp only [Pt.U, Pt.locs, Pt.cells, Pt.slots] at X63 l63 y63 z63 st63 hQ63
        subst l63 y63 z63
        obtain ⟨rfl, rfl, e63⟩ := hQ63
        refine Gl.go ?_ st63
        show Gl _ _ _ _ (T63.setTop (mkF m 55 #[.val (.ref a), .val (.int fr), .val (.int en), .val (.int (f_first fr en B)), .val (.int (f_first ((f_first fr en B) + (2 : Int32)) en B)), .unset] [(.int (f_stops (f_first ((f_first fr en B) + (2 : Int32)) en B) en B))]))
        by_cases hc64 : (f_stops (f_first ((f_first fr en B) + (2 : Int32)) en B) en B) = (0 : Int32)
        · refine Gl.go ?_ (fun t k => XS.ifYes X63.here hx rfl (pc0 := 55) (pc' := 61) rfl (hb hby d2_55) rfl ((if0 _ _).trans (teq hc64).1) (by decide) (by decide) k)
          show Gl _ _ _ _ (T63.setTop (mkF m 61 #[.val (.ref a), .val (.int fr), .val (.int en), .val (.int (f_first fr en B)), .val (.int (f_first ((f_first fr en B) + (2 : Int32)) en B)), .unset] []))
          refine Gl.go ?_ (fun t k => XS.aloadN X63.here hx rfl (hb hby d2_61) rfl rfl k)
          show Gl _ _ _ _ (T63.setTop (mkF m 62 #[.val (.ref a), .val (.int fr), .val (.int en), .val (.int (f_first fr en B)), .val (.int (f_first ((f_first fr en B) + (2 : Int32)) en B)), .unset] [(.ref a)]))
          refine Gl.go ?_ (fun t k => XS.iload X63.here hx rfl (hb hby d2_62) rfl k)
          show Gl _ _ _ _ (T63.setTop (mkF m 64 #[.val (.ref a), .val (.int fr), .val (.int en), .val (.int (f_first fr en B)), .val (.int (f_first ((f_first fr en B) + (2 : Int32)) en B)), .unset] [(.int (f_first ((f_first fr en B) + (2 : Int32)) en B)), (.ref a)]))
          refine Gl.go ?_ (fun t k => XS.iconst X63.here hx rfl (hb hby d2_64) k)
          show Gl _ _ _ _ (T63.setTop (mkF m 65 #[.val (.ref a), .val (.int fr), .val (.int en), .val (.int (f_first fr en B)), .val (.int (f_first ((f_first fr en B) + (2 : Int32)) en B)), .unset] [(.int (2 : Int32)), (.int (f_first ((f_first fr en B) + (2 : Int32)) en B)), (.ref a)]))
          refine Gl.go ?_ (fun t k => XS.iadd X63.here hx rfl (hb hby d2_65) rfl k)
          show Gl _ _ _ _ (T63.setTop (mkF m 66 #[.val (.ref a), .val (.int fr), .val (.int en), .val (.int (f_first fr en B)), .val (.int (f_first ((f_first fr en B) + (2 : Int32)) en B)), .unset] [(.int ((f_first ((f_first fr en B) + (2 : Int32)) en B) + (2 : Int32))), (.ref a)]))
          refine Gl.go ?_ (fun t k => XS.iloadN X63.here hx rfl (hb hby d2_66) rfl k)
          show Gl _ _ _ _ (T63.setTop (mkF m 67 #[.val (.ref a), .val (.int fr), .val (.int en), .val (.int (f_first fr en B)), .val (.int (f_first ((f_first fr en B) + (2 : Int32)) en B)), .unset] [(.int en), (.int ((f_first ((f_first fr en B) + (2 : Int32)) en B) + (2 : Int32))), (.ref a)]))
          have hb65 := own_two (own_first_nn hb60.1 hb60.2 hE0) hE hc62
          obtain ⟨_, _, ⟨T66, L66, k66, n66⟩, -, X66, ⟨Lc66, hQ66, l66, y66, z66⟩, st66⟩ := Jvm.LawKit.callS X63 hx (y := (⟨"com/example/facet/facet/xml/MarkupScannerPlainUntilPinLaw", "firstLt", "([BII)I"⟩ : MethodName)) hown (mvT hZ (hw _ (List.mem_of_getElem? (i := 9) rfl))) (mvT hZ (hw _ (List.mem_of_getElem? (i := 10) rfl))) (mvT hZ (hw _ (List.mem_of_getElem? (i := 3) rfl))) (mvT hZ (hw _ (List.mem_of_getElem? (i := 11) rfl))) (by decide) (backOf (W := 0) (rm3 l Z a0 hw [] a ((f_first ((f_first fr en B) + (2 : Int32)) en B) + (2 : Int32)) en B h0 hB hb65.1 hb65.2 hE) hZ (hw _ (List.mem_of_getElem? (i := 11) rfl)) (hw _ (List.mem_of_getElem? (i := 3) rfl)) (by decide) (by decide)) (g := (mkF m 67 #[.val (.ref a), .val (.int fr), .val (.int en), .val (.int (f_first fr en B)), .val (.int (f_first ((f_first fr en B) + (2 : Int32)) en B)), .unset] [(.int en), (.int ((f_first ((f_first fr en B) + (2 : Int32)) en B) + (2 : Int32))), (.ref a)])) rfl (by rw [hml]; rfl) (argsL := [(.ref a), (.int ((f_first ((f_first fr en B) + (2 : Int32)) en B) + (2 : Int32))), (.int en)]) (rest := []) (lenOf pd_1 rfl) rfl (by show 2 * 0 + _ ≤ _; exact Nat.le_of_eq rfl) (hb hby d2_67) (fun _ _ => ⟨rfl, e63, (by decide : 0 + 0 ≤ _), (by decide : 0 + 0 ≤ _)⟩)
          dsimp only [Pt.U, Pt.locs, Pt.cells, Pt.slots] at X66 l66 y66 z66 st66 hQ66
          subst l66 y66 z66
          obtain ⟨rfl, rfl, e66⟩ := hQ66
          refine Gl.go ?_ st66
          show Gl _ _ _ _ (T66.setTop (mkF m 70 #[.val (.ref a), .val (.int fr), .val (.int en), .val (.int (f_first fr en B)), .val (.int (f_first ((f_first fr en B) + (2 : Int32)) en B)), .unset] [(.int (f_first ((f_first ((f_first fr en B) + (2 : Int32)) en B) + (2 : Int32)) en B))]))
          refine Gl.go ?_ (fun t k => XS.istore X66.here hx rfl (hb hby d2_70) rfl (l' := #[.val (.ref a), .val (.int fr), .val (.int en), .val (.int (f_first fr en B)), .val (.int (f_first ((f_first fr en B) + (2 : Int32)) en B)), .val (.int (f_first ((f_first ((f_first fr en B) + (2 : Int32)) en B) + (2 : Int32)) en B))]) rfl k)
          show Gl _ _ _ _ (T66.setTop (mkF m 72 #[.val (.ref a), .val (.int fr), .val (.int en), .val (.int (f_first fr en B)), .val (.int (f_first ((f_first fr en B) + (2 : Int32)) en B)), .val (.int (f_first ((f_first ((f_first fr en B) + (2 : Int32)) en B) + (2 : Int32)) en B))] []))
          refine Gl.go ?_ (fun t k => XS.iload X66.here hx rfl (hb hby d2_72) rfl k)
          show Gl _ _ _ _ (T66.setTop (mkF m 74 #[.val (.ref a), .val (.int fr), .val (.int en), .val (.int (f_first fr en B)), .val (.int (f_first ((f_first fr en B) + (2 : Int32)) en B)), .val (.int (f_first ((f_first ((f_first fr en B) + (2 : Int32)) en B) + (2 : Int32)) en B))] [(.int (f_first ((f_first ((f_first fr en B) + (2 : Int32)) en B) + (2 : Int32)) en B))]))
          refine Gl.go ?_ (fun t k => XS.iloadN X66.here hx rfl (hb hby d2_74) rfl k)
          show Gl _ _ _ _ (T66.setTop (mkF m 75 #[.val (.ref a), .val (.int fr), .val (.int en), .val (.int (f_first fr en B)), .val (.int (f_first ((f_first fr en B) + (2 : Int32)) en B)), .val (.int (f_first ((f_first ((f_first fr en B) + (2 : Int32)) en B) + (2 : Int32)) en B))] [(.int en), (.int (f_first ((f_first ((f_first fr en B) + (2 : Int32)) en B) + (2 : Int32)) en B))]))
          by_cases hc67 : (f_first ((f_first ((f_first fr en B) + (2 : Int32)) en B) + (2 : Int32)) en B) < en
          · refine Gl.go ?_ (fun t k => XS.icmpYes X66.here hx rfl (pc0 := 75) (pc' := 81) rfl (hb hby d2_75) rfl (tlt hc67).1 (by decide) (by decide) k)
            show Gl _ _ _ _ (T66.setTop (mkF m 81 #[.val (.ref a), .val (.int fr), .val (.int en), .val (.int (f_first fr en B)), .val (.int (f_first ((f_first fr en B) + (2 : Int32)) en B)), .val (.int (f_first ((f_first ((f_first fr en B) + (2 : Int32)) en B) + (2 : Int32)) en B))] []))
            refine Gl.go ?_ (fun t k => XS.iload X66.here hx rfl (hb hby d2_81) rfl k)
            show Gl _ _ _ _ (T66.setTop (mkF m 83 #[.val (.ref a), .val (.int fr), .val (.int en), .val (.int (f_first fr en B)), .val (.int (f_first ((f_first fr en B) + (2 : Int32)) en B)), .val (.int (f_first ((f_first ((f_first fr en B) + (2 : Int32)) en B) + (2 : Int32)) en B))] [(.int (f_first ((f_first ((f_first fr en B) + (2 : Int32)) en B) + (2 : Int32)) en B))]))
            obtain ⟨fs, hr, hrun, hended, hW, hsame⟩ := X66.leave (v := some (.int (f_first ((f_first ((f_first fr en B) + (2 : Int32)) en B) + (2 : Int32)) en B))) (fun h => by rw [Bd.returns] at h; cases h) (BodyLoose.notSynchronized Bd)
            exact Gl.mk ⟨_, _, retI X66 hx Bd.returns (hb hby d2_83) hr, hrun, hended, _, _, rfl, ⟨congrArg (fun z => some (Value.int z)) ((if_pos hc57).trans ((if_pos hc59).trans ((if_pos hc62).trans ((if_pos hc64).trans ((if_pos hc67).trans (rfl)))))).symm, rfl, e66⟩, ⟨_, rfl⟩, hW, hsame.mono (by decide) (by decide)⟩
          · refine Gl.go ?_ (fun t k => XS.icmpNo X66.here hx rfl (hb hby d2_75) rfl (flt hc67).1 k)
            show Gl _ _ _ _ (T66.setTop (mkF m 78 #[.val (.ref a), .val (.int fr), .val (.int en), .val (.int (f_first fr en B)), .val (.int (f_first ((f_first fr en B) + (2 : Int32)) en B)), .val (.int (f_first ((f_first ((f_first fr en B) + (2 : Int32)) en B) + (2 : Int32)) en B))] []))
            refine Gl.go ?_ (fun t k => XS.iload X66.here hx rfl (hb hby d2_78) rfl k)
            show Gl _ _ _ _ (T66.setTop (mkF m 80 #[.val (.ref a), .val (.int fr), .val (.int en), .val (.int (f_first fr en B)), .val (.int (f_first ((f_first fr en B) + (2 : Int32)) en B)), .val (.int (f_first ((f_first ((f_first fr en B) + (2 : Int32)) en B) + (2 : Int32)) en B))] [(.int (f_first ((f_first fr en B) + (2 : Int32)) en B))]))
            obtain ⟨fs, hr, hrun, hended, hW, hsame⟩ := X66.leave (v := some (.int (f_first ((f_first fr en B) + (2 : Int32)) en B))) (fun h => by rw [Bd.returns] at h; cases h) (BodyLoose.notSynchronized Bd)
            exact Gl.mk ⟨_, _, retI X66 hx Bd.returns (hb hby d2_80) hr, hrun, hended, _, _, rfl, ⟨congrArg (fun z => some (Value.int z)) ((if_pos hc57).trans ((if_pos hc59).trans ((if_pos hc62).trans ((if_pos hc64).trans ((if_neg hc67).trans (rfl)))))).symm, rfl, e66⟩, ⟨_, rfl⟩, hW, hsame.mono (by decide) (by decide)⟩
        · refine Gl.go ?_ (fun t k => XS.ifNo X63.here hx rfl (hb hby d2_55) rfl ((if0 _ _).trans (feq hc64).1) k)
          show Gl _ _ _ _ (T63.setTop (mkF m 58 #[.val (.ref a), .val (.int fr), .val (.int en), .val (.int (f_first fr en B)), .val (.int (f_first ((f_first fr en B) + (2 : Int32)) en B)), .unset] []))
          refine Gl.go ?_ (fun t k => XS.iload X63.here hx rfl (hb hby d2_58) rfl k)
          show Gl _ _ _ _ (T63.setTop (mkF m 60 #[.val (.ref a), .val (.int fr), .val (.int en), .val (.int (f_first fr en B)), .val (.int (f_first ((f_first fr en B) + (2 : Int32)) en B)), .unset] [(.int (f_first ((f_first fr en B) + (2 : Int32)) en B))]))
          obtain ⟨fs, hr, hrun, hended, hW, hsame⟩ := X63.leave (v := some (.int (f_first ((f_first fr en B) + (2 : Int32)) en B))) (fun h => by rw [Bd.returns] at h; cases h) (BodyLoose.notSynchronized Bd)
          exact Gl.mk ⟨_, _, retI X63 hx Bd.returns (hb hby d2_60) hr, hrun, hended, _, _, rfl, ⟨congrArg (fun z => some (Value.int z)) ((if_pos hc57).trans ((if_pos hc59).trans ((if_pos hc62).trans ((if_neg hc64).trans (rfl))))).symm, rfl, e63⟩, ⟨_, rfl⟩, hW, hsame.mono (by decide) (by decide)⟩
      · refine Gl.go ?_ (fun t k => XS.icmpNo X61.here hx rfl (hb hby d2_43) rfl (flt hc62).1 k)
        show Gl _ _ _ _ (T61.setTop (mkF m 46 #[.val (.ref a), .val (.int fr), .val (.int en), .val (.int (f_first fr en B)), .val (.int (f_first ((f_first fr en B) + (2 : Int32)) en B)), .unset] []))
        refine Gl.go ?_ (fun t k => XS.iloadN X61.here hx rfl (hb hby d2_46) rfl k)
        show Gl _ _ _ _ (T61.setTop (mkF m 47 #[.val (.ref a), .val (.int fr), .val (.int en), .val (.int (f_first fr en B)), .val (.int (f_first ((f_first fr en B) + (2 : Int32)) en B)), .unset] [(.int (f_first fr en B))]))
        obtain ⟨fs, hr, hrun, hended, hW, hsame⟩ := X61.leave (v := some (.int (f_first fr en B))) (fun h => by rw [Bd.returns] at h; cases h) (BodyLoose.notSynchronized Bd)
        exact Gl.mk ⟨_, _, retI X61 hx Bd.returns (hb hby d2_47) hr, hrun, hended, _, _, rfl, ⟨congrArg (fun z => some (Value.int z)) ((if_pos hc57).trans ((if_pos hc59).trans ((if_neg hc62).trans (rfl)))).symm, rfl, e61⟩, ⟨_, rfl⟩, hW, hsame.mono (by decide) (by decide)⟩
    · refine Gl.go ?_ (fun t k => XS.ifNo X58.here hx rfl (hb hby d2_25) rfl ((if0 _ _).trans (feq hc59).1) k)
      show Gl _ _ _ _ (T58.setTop (mkF m 28 #[.val (.ref a), .val (.int fr), .val (.int en), .val (.int (f_first fr en B)), .unset, .unset] []))
      refine Gl.go ?_ (fun t k => XS.iloadN X58.here hx rfl (hb hby d2_28) rfl k)
      show Gl _ _ _ _ (T58.setTop (mkF m 29 #[.val (.ref a), .val (.int fr), .val (.int en), .val (.int (f_first fr en B)), .unset, .unset] [(.int (f_first fr en B))]))
      obtain ⟨fs, hr, hrun, hended, hW, hsame⟩ := X58.leave (v := some (.int (f_first fr en B))) (fun h => by rw [Bd.returns] at h; cases h) (BodyLoose.notSynchronized Bd)
      exact Gl.mk ⟨_, _, retI X58 hx Bd.returns (hb hby d2_29) hr, hrun, hended, _, _, rfl, ⟨congrArg (fun z => some (Value.int z)) ((if_pos hc57).trans ((if_neg hc59).trans (rfl))).symm, rfl, e58⟩, ⟨_, rfl⟩, hW, hsame.mono (by decide) (by decide)⟩
  · refine Gl.go ?_ (fun t k => XS.icmpNo X56.here hx rfl (hb hby d2_9) rfl (flt hc57).1 k)
    show Gl _ _ _ _ (T56.setTop (mkF m 12 #[.val (.ref a), .val (.int fr), .val (.int en), .val (.int (f_first fr en B)), .unset, .unset] []))
    refine Gl.go ?_ (fun t k => XS.aloadN X56.here hx rfl (hb hby d2_12) rfl rfl k)
    show Gl _ _ _ _ (T56.setTop (mkF m 13 #[.val (.ref a), .val (.int fr), .val (.int en), .val (.int (f_first fr en B)), .unset, .unset] [(.ref a)]))
    refine Gl.go ?_ (fun t k => XS.iloadN X56.here hx rfl (hb hby d2_13) rfl k)
    show Gl _ _ _ _ (T56.setTop (mkF m 14 #[.val (.ref a), .val (.int fr), .val (.int en), .val (.int (f_first fr en B)), .unset, .unset] [(.int fr), (.ref a)]))
    refine Gl.go ?_ (fun t k => XS.iloadN X56.here hx rfl (hb hby d2_14) rfl k)
    show Gl _ _ _ _ (T56.setTop (mkF m 15 #[.val (.ref a), .val (.int fr), .val (.int en), .val (.int (f_first fr en B)), .unset, .unset] [(.int en), (.int fr), (.ref a)]))
    obtain ⟨_, _, ⟨T68, L68, k68, n68⟩, -, X68, ⟨Lc68, hQ68, l68, y68, z68⟩, st68⟩ := Jvm.LawKit.callS X56 hx (y := (⟨"com/example/facet/facet/xml/MarkupScannerPlainUntilPinLaw", "trim", "([BII)I"⟩ : MethodName)) hown (mvT hZ (hw _ (List.mem_of_getElem? (i := 15) rfl))) (mvT hZ (hw _ (List.mem_of_getElem? (i := 16) rfl))) (mvT hZ (hw _ (List.mem_of_getElem? (i := 3) rfl))) (mvT hZ (hw _ (List.mem_of_getElem? (i := 17) rfl))) (by decide) (backOf (W := 0) (rm5 l Z a0 hw [] a fr en B h0 hB hf hE) hZ (hw _ (List.mem_of_getElem? (i := 17) rfl)) (hw _ (List.mem_of_getElem? (i := 3) rfl)) (by decide) (by decide)) (g := (mkF m 15 #[.val (.ref a), .val (.int fr), .val (.int en), .val (.int (f_first fr en B)), .unset, .unset] [(.int en), (.int fr), (.ref a)])) rfl (by rw [hml]; rfl) (argsL := [(.ref a), (.int fr), (.int en)]) (rest := []) (lenOf pd_1 rfl) rfl (by show 2 * 0 + _ ≤ _; exact Nat.le_of_eq rfl) (hb hby d2_15) (fun _ _ => ⟨rfl, e56, (by decide : 0 + 0 ≤ _), (by decide : 0 + 0 ≤ _)⟩)
    dsimp only [Pt.U, Pt.locs, Pt.cells, Pt.slots] at X68 l68 y68 z68 st68 hQ68
    subst l68 y68 z68
    obtain ⟨rfl, rfl, e68⟩ := hQ68
    refine Gl.go ?_ st68
    show Gl _ _ _ _ (T68.setTop (mkF m 18 #[.val (.ref a), .val (.int fr), .val (.int en), .val (.int (f_first fr en B)), .unset, .unset] [(.int (f_trim fr en B))]))
    obtain ⟨fs, hr, hrun, hended, hW, hsame⟩ := X68.leave (v := some (.int (f_trim fr en B))) (fun h => by rw [Bd.returns] at h; cases h) (BodyLoose.notSynchronized Bd)
    exact Gl.mk ⟨_, _, retI X68 hx Bd.returns (hb hby d2_18) hr, hrun, hended, _, _, rfl, ⟨congrArg (fun z => some (Value.int z)) ((if_neg hc57).trans (rfl)).symm, rfl, e68⟩, ⟨_, rfl⟩, hW, hsame.mono (by decide) (by decide)⟩
theorem d7_0 : decode prog_274_method_6_code 0 = .ok (.iconst (-1), 1) := by decide +kernel
theorem d7_1 : decode prog_274_method_6_code 1 = .ok (.istore_n 3, 1) := by decide +kernel
theorem d7_2 : decode prog_274_method_6_code 2 = .ok (.iload_n 1, 1) := by decide +kernel
theorem d7_3 : decode prog_274_method_6_code 3 = .ok (.istore 4, 2) := by decide +kernel
theorem d7_5 : decode prog_274_method_6_code 5 = .ok (.iconst 1, 1) := by decide +kernel
theorem d7_6 : decode prog_274_method_6_code 6 = .ok (.istore 5, 2) := by decide +kernel
theorem d7_8 : decode prog_274_method_6_code 8 = .ok (.iload 5, 2) := by decide +kernel
theorem d7_10 : decode prog_274_method_6_code 10 = .ok (.ifCond .eq 76, 3) := by decide +kernel
theorem d7_13 : decode prog_274_method_6_code 13 = .ok (.iload 4, 2) := by decide +kernel
theorem d7_15 : decode prog_274_method_6_code 15 = .ok (.iload_n 2, 1) := by decide +kernel
theorem d7_16 : decode prog_274_method_6_code 16 = .ok (.if_icmp .ge 18, 3) := by decide +kernel
theorem d7_19 : decode prog_274_method_6_code 19 = .ok (.aload_n 0, 1) := by decide +kernel
theorem d7_20 : decode prog_274_method_6_code 20 = .ok (.iload 4, 2) := by decide +kernel
theorem d7_22 : decode prog_274_method_6_code 22 = .ok (.baload, 1) := by decide +kernel
theorem d7_23 : decode prog_274_method_6_code 23 = .ok (.bipush 60, 2) := by decide +kernel
theorem d7_25 : decode prog_274_method_6_code 25 = .ok (.if_icmp .eq 9, 3) := by decide +kernel
theorem d7_28 : decode prog_274_method_6_code 28 = .ok (.iinc 4 1, 3) := by decide +kernel
theorem d7_31 : decode prog_274_method_6_code 31 = .ok (.goto (-18), 3) := by decide +kernel
theorem d7_34 : decode prog_274_method_6_code 34 = .ok (.iload 4, 2) := by decide +kernel
theorem d7_36 : decode prog_274_method_6_code 36 = .ok (.iconst 1, 1) := by decide +kernel
theorem d7_37 : decode prog_274_method_6_code 37 = .ok (.iadd, 1) := by decide +kernel
theorem d7_38 : decode prog_274_method_6_code 38 = .ok (.iload_n 2, 1) := by decide +kernel
theorem d7_39 : decode prog_274_method_6_code 39 = .ok (.if_icmp .ge 29, 3) := by decide +kernel
theorem d7_42 : decode prog_274_method_6_code 42 = .ok (.aload_n 0, 1) := by decide +kernel
theorem d7_43 : decode prog_274_method_6_code 43 = .ok (.iload 4, 2) := by decide +kernel
theorem d7_45 : decode prog_274_method_6_code 45 = .ok (.iconst 1, 1) := by decide +kernel
theorem d7_46 : decode prog_274_method_6_code 46 = .ok (.iadd, 1) := by decide +kernel
theorem d7_47 : decode prog_274_method_6_code 47 = .ok (.baload, 1) := by decide +kernel
theorem d7_48 : decode prog_274_method_6_code 48 = .ok (.bipush 33, 2) := by decide +kernel
theorem d7_50 : decode prog_274_method_6_code 50 = .ok (.if_icmp .eq 18, 3) := by decide +kernel
theorem d7_53 : decode prog_274_method_6_code 53 = .ok (.aload_n 0, 1) := by decide +kernel
theorem d7_54 : decode prog_274_method_6_code 54 = .ok (.iload 4, 2) := by decide +kernel
theorem d7_56 : decode prog_274_method_6_code 56 = .ok (.iconst 1, 1) := by decide +kernel
theorem d7_57 : decode prog_274_method_6_code 57 = .ok (.iadd, 1) := by decide +kernel
theorem d7_58 : decode prog_274_method_6_code 58 = .ok (.baload, 1) := by decide +kernel
theorem d7_59 : decode prog_274_method_6_code 59 = .ok (.bipush 63, 2) := by decide +kernel
theorem d7_61 : decode prog_274_method_6_code 61 = .ok (.if_icmp .eq 7, 3) := by decide +kernel
theorem d7_64 : decode prog_274_method_6_code 64 = .ok (.iconst 1, 1) := by decide +kernel
theorem d7_65 : decode prog_274_method_6_code 65 = .ok (.goto 4, 3) := by decide +kernel
theorem d7_68 : decode prog_274_method_6_code 68 = .ok (.iconst 0, 1) := by decide +kernel
theorem d7_69 : decode prog_274_method_6_code 69 = .ok (.istore 5, 2) := by decide +kernel
theorem d7_71 : decode prog_274_method_6_code 71 = .ok (.iload 4, 2) := by decide +kernel
theorem d7_73 : decode prog_274_method_6_code 73 = .ok (.iload_n 2, 1) := by decide +kernel
theorem d7_74 : decode prog_274_method_6_code 74 = .ok (.if_icmp .ge 6, 3) := by decide +kernel
theorem d7_77 : decode prog_274_method_6_code 77 = .ok (.iload 4, 2) := by decide +kernel
theorem d7_79 : decode prog_274_method_6_code 79 = .ok (.istore_n 3, 1) := by decide +kernel
theorem d7_80 : decode prog_274_method_6_code 80 = .ok (.iinc 4 2, 3) := by decide +kernel
theorem d7_83 : decode prog_274_method_6_code 83 = .ok (.goto (-75), 3) := by decide +kernel
theorem d7_86 : decode prog_274_method_6_code 86 = .ok (.iload_n 3, 1) := by decide +kernel
theorem d7_87 : decode prog_274_method_6_code 87 = .ok (.istore 6, 2) := by decide +kernel
theorem d7_89 : decode prog_274_method_6_code 89 = .ok (.iload_n 3, 1) := by decide +kernel
theorem d7_90 : decode prog_274_method_6_code 90 = .ok (.ifCond .ge 29, 3) := by decide +kernel
theorem d7_93 : decode prog_274_method_6_code 93 = .ok (.iload_n 2, 1) := by decide +kernel
theorem d7_94 : decode prog_274_method_6_code 94 = .ok (.istore 6, 2) := by decide +kernel
theorem d7_96 : decode prog_274_method_6_code 96 = .ok (.iload 6, 2) := by decide +kernel
theorem d7_98 : decode prog_274_method_6_code 98 = .ok (.iload_n 1, 1) := by decide +kernel
theorem d7_99 : decode prog_274_method_6_code 99 = .ok (.if_icmp .le 20, 3) := by decide +kernel
theorem d7_102 : decode prog_274_method_6_code 102 = .ok (.aload_n 0, 1) := by decide +kernel
theorem d7_103 : decode prog_274_method_6_code 103 = .ok (.iload 6, 2) := by decide +kernel
theorem d7_105 : decode prog_274_method_6_code 105 = .ok (.iconst 1, 1) := by decide +kernel
theorem d7_106 : decode prog_274_method_6_code 106 = .ok (.isub, 1) := by decide +kernel
theorem d7_107 : decode prog_274_method_6_code 107 = .ok (.baload, 1) := by decide +kernel
theorem d7_108 : decode prog_274_method_6_code 108 = .ok (.bipush 93, 2) := by decide +kernel
theorem d7_110 : decode prog_274_method_6_code 110 = .ok (.if_icmp .ne 9, 3) := by decide +kernel
theorem d7_113 : decode prog_274_method_6_code 113 = .ok (.iinc 6 (-1), 3) := by decide +kernel
theorem d7_116 : decode prog_274_method_6_code 116 = .ok (.goto (-20), 3) := by decide +kernel
theorem d7_119 : decode prog_274_method_6_code 119 = .ok (.iload 6, 2) := by decide +kernel
theorem d7_121 : decode prog_274_method_6_code 121 = .ok (.ireturn, 1) := by decide +kernel
theorem pn_7 : plainName "com/example/facet/facet/xml/MarkupScanner" = true := by first | (simp [plainName, overriddenIn]; done) | decide +kernel
def scan (B : Int32 → Int32) (en : Int32) : Nat → Int32 → Int32
  | 0, i => i
  | n + 1, i => if i < en then (if B i = 60 then i else scan B en n (i + 1)) else i
def trm (B : Int32 → Int32) (fr : Int32) : Nat → Int32 → Int32
  | 0, r => r
  | n + 1, r => if fr < r then (if B (r - 1) = 93 then trm B fr n (r + (-1 : Int32)) else r) else r
set_option maxRecDepth 65536 in
set_option maxHeartbeats 40000000 in
theorem loop_scan {p : Program} {l : Launch} {e : Env} {R : Room} {s : State} {m : MethodId} {args : Array Value} {below : List Frame} {meth : Method} {c : Code} {T : State} {locs : List Loc} {cells slots : Nat} {Z : State} {h0 : Heap} {K : State → Outcome → Prop} (X0 : Stand p l e R s m args below meth c T locs cells slots) (hx : p.tables.exec = Jvm.exec) (hZ : Z.Warmed39 s.vm) (hby : c.code = prog_274_method_6_code) (e0 : T.heap = h0) (a : Addr) (fr en la mo : Int32) (B : Int32 → Int32) (hB : BA Z h0 a .byte (6 : Int32) B) (hE : en.toInt ≤ 6) : ∀ (n : Nat) (i : Int32), 0 ≤ i.toInt → en.toInt ≤ i.toInt + n → Gl p.tables e below K (T.setTop (mkF m 34 #[.val (.ref a), .val (.int fr), .val (.int en), .val (.int la), .val (.int (scan B en n i)), .val (.int mo), .unset] [])) → Gl p.tables e below K (T.setTop (mkF m 13 #[.val (.ref a), .val (.int fr), .val (.int en), .val (.int la), .val (.int i), .val (.int mo), .unset] [])) := by
  intro n
  induction n with
  | zero =>
    intro i h1 h2 cont
    have hc : ¬ i < en := by rw [Int32.lt_iff_toInt_lt]; omega
    show Gl _ _ _ _ (T.setTop (mkF m 13 #[.val (.ref a), .val (.int fr), .val (.int en), .val (.int la), .val (.int i), .val (.int mo), .unset] []))
    refine Gl.go ?_ (fun t k => XS.iload X0.here hx rfl (hb hby d7_13) rfl k)
    show Gl _ _ _ _ (T.setTop (mkF m 15 #[.val (.ref a), .val (.int fr), .val (.int en), .val (.int la), .val (.int i), .val (.int mo), .unset] [(.int i)]))
    refine Gl.go ?_ (fun t k => XS.iloadN X0.here hx rfl (hb hby d7_15) rfl k)
    show Gl _ _ _ _ (T.setTop (mkF m 16 #[.val (.ref a), .val (.int fr), .val (.int en), .val (.int la), .val (.int i), .val (.int mo), .unset] [(.int en), (.int i)]))
    refine Gl.go ?_ (fun t k => XS.icmpYes X0.here hx rfl (pc0 := 16) (pc' := 34) rfl (hb hby d7_16) rfl (flt hc).2.1 (by decide) (by decide) k)
    exact cont
  | succ n ih =>
    intro i h1 h2 cont
    by_cases hc : i < en
    · by_cases hz : B i = (60 : Int32)
      · skip
        show Gl _ _ _ _ (T.setTop (mkF m 13 #[.val (.ref a), .val (.int fr), .val (.int en), .val (.int la), .val (.int i), .val (.int mo), .unset] []))
        refine Gl.go ?_ (fun t k => XS.iload X0.here hx rfl (hb hby d7_13) rfl k)
        show Gl _ _ _ _ (T.setTop (mkF m 15 #[.val (.ref a), .val (.int fr), .val (.int en), .val (.int la), .val (.int i), .val (.int mo), .unset] [(.int i)]))
        refine Gl.go ?_ (fun t k => XS.iloadN X0.here hx rfl (hb hby d7_15) rfl k)
        show Gl _ _ _ _ (T.setTop (mkF m 16 #[.val (.ref a), .val (.int fr), .val (.int en), .val (.int la), .val (.int i), .val (.int mo), .unset] [(.int en), (.int i)]))
        refine Gl.go ?_ (fun t k => XS.icmpNo X0.here hx rfl (hb hby d7_16) rfl (tlt hc).2.1 k)
        show Gl _ _ _ _ (T.setTop (mkF m 19 #[.val (.ref a), .val (.int fr), .val (.int en), .val (.int la), .val (.int i), .val (.int mo), .unset] []))
        refine Gl.go ?_ (fun t k => XS.aloadN X0.here hx rfl (hb hby d7_19) rfl rfl k)
        show Gl _ _ _ _ (T.setTop (mkF m 20 #[.val (.ref a), .val (.int fr), .val (.int en), .val (.int la), .val (.int i), .val (.int mo), .unset] [(.ref a)]))
        refine Gl.go ?_ (fun t k => XS.iload X0.here hx rfl (hb hby d7_20) rfl k)
        show Gl _ _ _ _ (T.setTop (mkF m 22 #[.val (.ref a), .val (.int fr), .val (.int en), .val (.int la), .val (.int i), .val (.int mo), .unset] [(.int i), (.ref a)]))
        refine Gl.go ?_ (BA.rdB hB X0 hx hZ e0 (own_in h1 hE hc).1 (own_in h1 hE hc).2 (g := (mkF m 22 #[.val (.ref a), .val (.int fr), .val (.int en), .val (.int la), .val (.int i), .val (.int mo), .unset] [(.int i), (.ref a)])) rfl rfl (hb hby d7_22))
        show Gl _ _ _ _ (T.setTop (mkF m 23 #[.val (.ref a), .val (.int fr), .val (.int en), .val (.int la), .val (.int i), .val (.int mo), .unset] [(.int (B i))]))
        refine Gl.go ?_ (fun t k => XS.bipush X0.here hx rfl (hb hby d7_23) k)
        show Gl _ _ _ _ (T.setTop (mkF m 25 #[.val (.ref a), .val (.int fr), .val (.int en), .val (.int la), .val (.int i), .val (.int mo), .unset] [(.int (60 : Int32)), (.int (B i))]))
        refine Gl.go ?_ (fun t k => XS.icmpYes X0.here hx rfl (pc0 := 25) (pc' := 34) rfl (hb hby d7_25) rfl (teq hz).1 (by decide) (by decide) k)
        have q : scan B en (n + 1) i = i := (if_pos hc).trans (if_pos hz)
        rw [q] at cont
        exact cont
      · skip
        show Gl _ _ _ _ (T.setTop (mkF m 13 #[.val (.ref a), .val (.int fr), .val (.int en), .val (.int la), .val (.int i), .val (.int mo), .unset] []))
        refine Gl.go ?_ (fun t k => XS.iload X0.here hx rfl (hb hby d7_13) rfl k)
        show Gl _ _ _ _ (T.setTop (mkF m 15 #[.val (.ref a), .val (.int fr), .val (.int en), .val (.int la), .val (.int i), .val (.int mo), .unset] [(.int i)]))
        refine Gl.go ?_ (fun t k => XS.iloadN X0.here hx rfl (hb hby d7_15) rfl k)
        show Gl _ _ _ _ (T.setTop (mkF m 16 #[.val (.ref a), .val (.int fr), .val (.int en), .val (.int la), .val (.int i), .val (.int mo), .unset] [(.int en), (.int i)]))
        refine Gl.go ?_ (fun t k => XS.icmpNo X0.here hx rfl (hb hby d7_16) rfl (tlt hc).2.1 k)
        show Gl _ _ _ _ (T.setTop (mkF m 19 #[.val (.ref a), .val (.int fr), .val (.int en), .val (.int la), .val (.int i), .val (.int mo), .unset] []))
        refine Gl.go ?_ (fun t k => XS.aloadN X0.here hx rfl (hb hby d7_19) rfl rfl k)
        show Gl _ _ _ _ (T.setTop (mkF m 20 #[.val (.ref a), .val (.int fr), .val (.int en), .val (.int la), .val (.int i), .val (.int mo), .unset] [(.ref a)]))
        refine Gl.go ?_ (fun t k => XS.iload X0.here hx rfl (hb hby d7_20) rfl k)
        show Gl _ _ _ _ (T.setTop (mkF m 22 #[.val (.ref a), .val (.int fr), .val (.int en), .val (.int la), .val (.int i), .val (.int mo), .unset] [(.int i), (.ref a)]))
        refine Gl.go ?_ (BA.rdB hB X0 hx hZ e0 (own_in h1 hE hc).1 (own_in h1 hE hc).2 (g := (mkF m 22 #[.val (.ref a), .val (.int fr), .val (.int en), .val (.int la), .val (.int i), .val (.int mo), .unset] [(.int i), (.ref a)])) rfl rfl (hb hby d7_22))
        show Gl _ _ _ _ (T.setTop (mkF m 23 #[.val (.ref a), .val (.int fr), .val (.int en), .val (.int la), .val (.int i), .val (.int mo), .unset] [(.int (B i))]))
        refine Gl.go ?_ (fun t k => XS.bipush X0.here hx rfl (hb hby d7_23) k)
        show Gl _ _ _ _ (T.setTop (mkF m 25 #[.val (.ref a), .val (.int fr), .val (.int en), .val (.int la), .val (.int i), .val (.int mo), .unset] [(.int (60 : Int32)), (.int (B i))]))
        refine Gl.go ?_ (fun t k => XS.icmpNo X0.here hx rfl (hb hby d7_25) rfl (feq hz).1 k)
        show Gl _ _ _ _ (T.setTop (mkF m 28 #[.val (.ref a), .val (.int fr), .val (.int en), .val (.int la), .val (.int i), .val (.int mo), .unset] []))
        refine Gl.go ?_ (fun t k => XS.iinc X0.here hx rfl (hb hby d7_28) rfl (l' := #[.val (.ref a), .val (.int fr), .val (.int en), .val (.int la), .val (.int (i + (1 : Int32))), .val (.int mo), .unset]) rfl k)
        show Gl _ _ _ _ (T.setTop (mkF m 31 #[.val (.ref a), .val (.int fr), .val (.int en), .val (.int la), .val (.int (i + (1 : Int32))), .val (.int mo), .unset] []))
        refine Gl.go ?_ (fun t k => XS.goto X0.here hx rfl (pc0 := 31) (pc' := 13) rfl (hb hby d7_31) (by decide) (by decide) k)
        have h3 : i.toInt < en.toInt := Int32.lt_iff_toInt_lt.mp hc
        have h4 : (i + (1 : Int32)).toInt = i.toInt + 1 := own_succ (by omega)
        have q : scan B en (n + 1) i = scan B en n (i + 1) := (if_pos hc).trans (if_neg hz)
        rw [q] at cont
        exact ih (i + 1) (by omega) (by omega) cont
    · skip
      show Gl _ _ _ _ (T.setTop (mkF m 13 #[.val (.ref a), .val (.int fr), .val (.int en), .val (.int la), .val (.int i), .val (.int mo), .unset] []))
      refine Gl.go ?_ (fun t k => XS.iload X0.here hx rfl (hb hby d7_13) rfl k)
      show Gl _ _ _ _ (T.setTop (mkF m 15 #[.val (.ref a), .val (.int fr), .val (.int en), .val (.int la), .val (.int i), .val (.int mo), .unset] [(.int i)]))
      refine Gl.go ?_ (fun t k => XS.iloadN X0.here hx rfl (hb hby d7_15) rfl k)
      show Gl _ _ _ _ (T.setTop (mkF m 16 #[.val (.ref a), .val (.int fr), .val (.int en), .val (.int la), .val (.int i), .val (.int mo), .unset] [(.int en), (.int i)]))
      refine Gl.go ?_ (fun t k => XS.icmpYes X0.here hx rfl (pc0 := 16) (pc' := 34) rfl (hb hby d7_16) rfl (flt hc).2.1 (by decide) (by decide) k)
      have q : scan B en (n + 1) i = i := if_neg hc
      rw [q] at cont
      exact cont
set_option maxRecDepth 65536 in
set_option maxHeartbeats 40000000 in
theorem loop_trm {p : Program} {l : Launch} {e : Env} {R : Room} {s : State} {m : MethodId} {args : Array Value} {below : List Frame} {meth : Method} {c : Code} {T : State} {locs : List Loc} {cells slots : Nat} {Z : State} {h0 : Heap} {K : State → Outcome → Prop} (X0 : Stand p l e R s m args below meth c T locs cells slots) (hx : p.tables.exec = Jvm.exec) (hZ : Z.Warmed39 s.vm) (hby : c.code = prog_274_method_6_code) (e0 : T.heap = h0) (a : Addr) (fr en la i mo : Int32) (B : Int32 → Int32) (hB : BA Z h0 a .byte (6 : Int32) B) (hf : 0 ≤ fr.toInt) : ∀ (n : Nat) (r : Int32), r.toInt ≤ 6 → r.toInt ≤ fr.toInt + n → Gl p.tables e below K (T.setTop (mkF m 119 #[.val (.ref a), .val (.int fr), .val (.int en), .val (.int la), .val (.int i), .val (.int mo), .val (.int (trm B fr n r))] [])) → Gl p.tables e below K (T.setTop (mkF m 96 #[.val (.ref a), .val (.int fr), .val (.int en), .val (.int la), .val (.int i), .val (.int mo), .val (.int r)] [])) := by
  intro n
  induction n with
  | zero =>
    intro r h1 h2 cont
    have hc : ¬ fr < r := by rw [Int32.lt_iff_toInt_lt]; omega
    show Gl _ _ _ _ (T.setTop (mkF m 96 #[.val (.ref a), .val (.int fr), .val (.int en), .val (.int la), .val (.int i), .val (.int mo), .val (.int r)] []))
    refine Gl.go ?_ (fun t k => XS.iload X0.here hx rfl (hb hby d7_96) rfl k)
    show Gl _ _ _ _ (T.setTop (mkF m 98 #[.val (.ref a), .val (.int fr), .val (.int en), .val (.int la), .val (.int i), .val (.int mo), .val (.int r)] [(.int r)]))
    refine Gl.go ?_ (fun t k => XS.iloadN X0.here hx rfl (hb hby d7_98) rfl k)
    show Gl _ _ _ _ (T.setTop (mkF m 99 #[.val (.ref a), .val (.int fr), .val (.int en), .val (.int la), .val (.int i), .val (.int mo), .val (.int r)] [(.int fr), (.int r)]))
    refine Gl.go ?_ (fun t k => XS.icmpYes X0.here hx rfl (pc0 := 99) (pc' := 119) rfl (hb hby d7_99) rfl (flt hc).2.2.2 (by decide) (by decide) k)
    exact cont
  | succ n ih =>
    intro r h1 h2 cont
    by_cases hc : fr < r
    · by_cases hz : B (r - 1) = (93 : Int32)
      · skip
        show Gl _ _ _ _ (T.setTop (mkF m 96 #[.val (.ref a), .val (.int fr), .val (.int en), .val (.int la), .val (.int i), .val (.int mo), .val (.int r)] []))
        refine Gl.go ?_ (fun t k => XS.iload X0.here hx rfl (hb hby d7_96) rfl k)
        show Gl _ _ _ _ (T.setTop (mkF m 98 #[.val (.ref a), .val (.int fr), .val (.int en), .val (.int la), .val (.int i), .val (.int mo), .val (.int r)] [(.int r)]))
        refine Gl.go ?_ (fun t k => XS.iloadN X0.here hx rfl (hb hby d7_98) rfl k)
        show Gl _ _ _ _ (T.setTop (mkF m 99 #[.val (.ref a), .val (.int fr), .val (.int en), .val (.int la), .val (.int i), .val (.int mo), .val (.int r)] [(.int fr), (.int r)]))
        refine Gl.go ?_ (fun t k => XS.icmpNo X0.here hx rfl (hb hby d7_99) rfl (tlt hc).2.2.2 k)
        show Gl _ _ _ _ (T.setTop (mkF m 102 #[.val (.ref a), .val (.int fr), .val (.int en), .val (.int la), .val (.int i), .val (.int mo), .val (.int r)] []))
        refine Gl.go ?_ (fun t k => XS.aloadN X0.here hx rfl (hb hby d7_102) rfl rfl k)
        show Gl _ _ _ _ (T.setTop (mkF m 103 #[.val (.ref a), .val (.int fr), .val (.int en), .val (.int la), .val (.int i), .val (.int mo), .val (.int r)] [(.ref a)]))
        refine Gl.go ?_ (fun t k => XS.iload X0.here hx rfl (hb hby d7_103) rfl k)
        show Gl _ _ _ _ (T.setTop (mkF m 105 #[.val (.ref a), .val (.int fr), .val (.int en), .val (.int la), .val (.int i), .val (.int mo), .val (.int r)] [(.int r), (.ref a)]))
        refine Gl.go ?_ (fun t k => XS.iconst X0.here hx rfl (hb hby d7_105) k)
        show Gl _ _ _ _ (T.setTop (mkF m 106 #[.val (.ref a), .val (.int fr), .val (.int en), .val (.int la), .val (.int i), .val (.int mo), .val (.int r)] [(.int (1 : Int32)), (.int r), (.ref a)]))
        refine Gl.go ?_ (fun t k => XS.isub X0.here hx rfl (hb hby d7_106) rfl k)
        show Gl _ _ _ _ (T.setTop (mkF m 107 #[.val (.ref a), .val (.int fr), .val (.int en), .val (.int la), .val (.int i), .val (.int mo), .val (.int r)] [(.int (r - (1 : Int32))), (.ref a)]))
        refine Gl.go ?_ (BA.rdB hB X0 hx hZ e0 (own_cl hf h1 hc).1 (own_cl hf h1 hc).2 (g := (mkF m 107 #[.val (.ref a), .val (.int fr), .val (.int en), .val (.int la), .val (.int i), .val (.int mo), .val (.int r)] [(.int (r - (1 : Int32))), (.ref a)])) rfl rfl (hb hby d7_107))
        show Gl _ _ _ _ (T.setTop (mkF m 108 #[.val (.ref a), .val (.int fr), .val (.int en), .val (.int la), .val (.int i), .val (.int mo), .val (.int r)] [(.int (B (r - (1 : Int32))))]))
        refine Gl.go ?_ (fun t k => XS.bipush X0.here hx rfl (hb hby d7_108) k)
        show Gl _ _ _ _ (T.setTop (mkF m 110 #[.val (.ref a), .val (.int fr), .val (.int en), .val (.int la), .val (.int i), .val (.int mo), .val (.int r)] [(.int (93 : Int32)), (.int (B (r - (1 : Int32))))]))
        refine Gl.go ?_ (fun t k => XS.icmpNo X0.here hx rfl (hb hby d7_110) rfl (teq hz).2 k)
        show Gl _ _ _ _ (T.setTop (mkF m 113 #[.val (.ref a), .val (.int fr), .val (.int en), .val (.int la), .val (.int i), .val (.int mo), .val (.int r)] []))
        refine Gl.go ?_ (fun t k => XS.iinc X0.here hx rfl (hb hby d7_113) rfl (l' := #[.val (.ref a), .val (.int fr), .val (.int en), .val (.int la), .val (.int i), .val (.int mo), .val (.int (r + (-1 : Int32)))]) rfl k)
        show Gl _ _ _ _ (T.setTop (mkF m 116 #[.val (.ref a), .val (.int fr), .val (.int en), .val (.int la), .val (.int i), .val (.int mo), .val (.int (r + (-1 : Int32)))] []))
        refine Gl.go ?_ (fun t k => XS.goto X0.here hx rfl (pc0 := 116) (pc' := 96) rfl (hb hby d7_116) (by decide) (by decide) k)
        have h3 := own_down hf h1 hc
        have h5 : (r + (-1 : Int32)).toInt = r.toInt + (-1) := own_add rfl (by have := Int32.lt_iff_toInt_lt.mp hc; omega) (by omega) (by decide) (by decide)
        have q : trm B fr (n + 1) r = trm B fr n (r + (-1 : Int32)) := (if_pos hc).trans (if_pos hz)
        rw [q] at cont
        exact ih (r + (-1 : Int32)) h3 (by omega) cont
      · skip
        show Gl _ _ _ _ (T.setTop (mkF m 96 #[.val (.ref a), .val (.int fr), .val (.int en), .val (.int la), .val (.int i), .val (.int mo), .val (.int r)] []))
        refine Gl.go ?_ (fun t k => XS.iload X0.here hx rfl (hb hby d7_96) rfl k)
        show Gl _ _ _ _ (T.setTop (mkF m 98 #[.val (.ref a), .val (.int fr), .val (.int en), .val (.int la), .val (.int i), .val (.int mo), .val (.int r)] [(.int r)]))
        refine Gl.go ?_ (fun t k => XS.iloadN X0.here hx rfl (hb hby d7_98) rfl k)
        show Gl _ _ _ _ (T.setTop (mkF m 99 #[.val (.ref a), .val (.int fr), .val (.int en), .val (.int la), .val (.int i), .val (.int mo), .val (.int r)] [(.int fr), (.int r)]))
        refine Gl.go ?_ (fun t k => XS.icmpNo X0.here hx rfl (hb hby d7_99) rfl (tlt hc).2.2.2 k)
        show Gl _ _ _ _ (T.setTop (mkF m 102 #[.val (.ref a), .val (.int fr), .val (.int en), .val (.int la), .val (.int i), .val (.int mo), .val (.int r)] []))
        refine Gl.go ?_ (fun t k => XS.aloadN X0.here hx rfl (hb hby d7_102) rfl rfl k)
        show Gl _ _ _ _ (T.setTop (mkF m 103 #[.val (.ref a), .val (.int fr), .val (.int en), .val (.int la), .val (.int i), .val (.int mo), .val (.int r)] [(.ref a)]))
        refine Gl.go ?_ (fun t k => XS.iload X0.here hx rfl (hb hby d7_103) rfl k)
        show Gl _ _ _ _ (T.setTop (mkF m 105 #[.val (.ref a), .val (.int fr), .val (.int en), .val (.int la), .val (.int i), .val (.int mo), .val (.int r)] [(.int r), (.ref a)]))
        refine Gl.go ?_ (fun t k => XS.iconst X0.here hx rfl (hb hby d7_105) k)
        show Gl _ _ _ _ (T.setTop (mkF m 106 #[.val (.ref a), .val (.int fr), .val (.int en), .val (.int la), .val (.int i), .val (.int mo), .val (.int r)] [(.int (1 : Int32)), (.int r), (.ref a)]))
        refine Gl.go ?_ (fun t k => XS.isub X0.here hx rfl (hb hby d7_106) rfl k)
        show Gl _ _ _ _ (T.setTop (mkF m 107 #[.val (.ref a), .val (.int fr), .val (.int en), .val (.int la), .val (.int i), .val (.int mo), .val (.int r)] [(.int (r - (1 : Int32))), (.ref a)]))
        refine Gl.go ?_ (BA.rdB hB X0 hx hZ e0 (own_cl hf h1 hc).1 (own_cl hf h1 hc).2 (g := (mkF m 107 #[.val (.ref a), .val (.int fr), .val (.int en), .val (.int la), .val (.int i), .val (.int mo), .val (.int r)] [(.int (r - (1 : Int32))), (.ref a)])) rfl rfl (hb hby d7_107))
        show Gl _ _ _ _ (T.setTop (mkF m 108 #[.val (.ref a), .val (.int fr), .val (.int en), .val (.int la), .val (.int i), .val (.int mo), .val (.int r)] [(.int (B (r - (1 : Int32))))]))
        refine Gl.go ?_ (fun t k => XS.bipush X0.here hx rfl (hb hby d7_108) k)
        show Gl _ _ _ _ (T.setTop (mkF m 110 #[.val (.ref a), .val (.int fr), .val (.int en), .val (.int la), .val (.int i), .val (.int mo), .val (.int r)] [(.int (93 : Int32)), (.int (B (r - (1 : Int32))))]))
        refine Gl.go ?_ (fun t k => XS.icmpYes X0.here hx rfl (pc0 := 110) (pc' := 119) rfl (hb hby d7_110) rfl (feq hz).2 (by decide) (by decide) k)
        have q : trm B fr (n + 1) r = r := (if_pos hc).trans (if_neg hz)
        rw [q] at cont
        exact cont
    · skip
      show Gl _ _ _ _ (T.setTop (mkF m 96 #[.val (.ref a), .val (.int fr), .val (.int en), .val (.int la), .val (.int i), .val (.int mo), .val (.int r)] []))
      refine Gl.go ?_ (fun t k => XS.iload X0.here hx rfl (hb hby d7_96) rfl k)
      show Gl _ _ _ _ (T.setTop (mkF m 98 #[.val (.ref a), .val (.int fr), .val (.int en), .val (.int la), .val (.int i), .val (.int mo), .val (.int r)] [(.int r)]))
      refine Gl.go ?_ (fun t k => XS.iloadN X0.here hx rfl (hb hby d7_98) rfl k)
      show Gl _ _ _ _ (T.setTop (mkF m 99 #[.val (.ref a), .val (.int fr), .val (.int en), .val (.int la), .val (.int i), .val (.int mo), .val (.int r)] [(.int fr), (.int r)]))
      refine Gl.go ?_ (fun t k => XS.icmpYes X0.here hx rfl (pc0 := 99) (pc' := 119) rfl (hb hby d7_99) rfl (flt hc).2.2.2 (by decide) (by decide) k)
      have q : trm B fr (n + 1) r = r := if_neg hc
      rw [q] at cont
      exact cont
theorem own_scan_ge {B : Int32 → Int32} {en : Int32} (hE : en.toInt ≤ 6) : ∀ (n : Nat) (i : Int32), 0 ≤ i.toInt → i.toInt ≤ 20 → i.toInt ≤ (scan B en n i).toInt ∧ ((scan B en n i).toInt ≤ 6 ∨ (scan B en n i).toInt = i.toInt) := by
  intro n
  induction n with
  | zero => intro i h1 h2; exact ⟨Int.le_refl _, Or.inr rfl⟩
  | succ n ih =>
    intro i h1 h2
    by_cases hc : i < en
    · by_cases hz : B i = 60
      · have q : scan B en (n + 1) i = i := (if_pos hc).trans (if_pos hz)
        rw [q]; exact ⟨Int.le_refl _, Or.inr rfl⟩
      · have q : scan B en (n + 1) i = scan B en n (i + 1) := (if_pos hc).trans (if_neg hz)
        have h3 : i.toInt < en.toInt := Int32.lt_iff_toInt_lt.mp hc
        have h4 : (i + (1 : Int32)).toInt = i.toInt + 1 := own_succ (by omega)
        have h5 := ih (i + 1) (by omega) (by omega)
        rw [q]; omega
    · have q : scan B en (n + 1) i = i := if_neg hc
      rw [q]; exact ⟨Int.le_refl _, Or.inr rfl⟩
theorem own_j1 {i j : Int32} (hb : 0 ≤ i.toInt ∧ i.toInt ≤ 20) (hs : i.toInt ≤ j.toInt ∧ (j.toInt ≤ 6 ∨ j.toInt = i.toInt)) : 0 ≤ (j + (1 : Int32)).toInt := own_addn (c := 1) rfl (by omega) (by omega) (by decide) (by decide)
theorem own_j2 {i j en : Int32} (hb : 0 ≤ i.toInt ∧ i.toInt ≤ 20) (hs : i.toInt ≤ j.toInt ∧ (j.toInt ≤ 6 ∨ j.toInt = i.toInt)) (h : (j + (1 : Int32)) < en) : j < en := by
  rw [Int32.lt_iff_toInt_lt, own_add (c := 1) rfl (by omega) (by omega) (by decide) (by decide)] at h
  rw [Int32.lt_iff_toInt_lt]; omega
theorem own_up2 {i j : Int32} {c : Int} (hb : 0 ≤ i.toInt ∧ i.toInt ≤ c) (hs : i.toInt ≤ j.toInt ∧ (j.toInt ≤ 6 ∨ j.toInt = i.toInt)) (h1 : 6 ≤ c) (h2 : c ≤ 18) : 0 ≤ (j + (2 : Int32)).toInt ∧ (j + (2 : Int32)).toInt ≤ c + 2 ∧ (j + (2 : Int32)).toInt = j.toInt + 2 := by
  rw [own_add (c := 2) rfl (by omega) (by omega) (by decide) (by decide)]; omega
theorem own_four {i j en : Int32} (hE : en.toInt ≤ 6) (h4 : 6 ≤ i.toInt) (hb : 0 ≤ i.toInt ∧ i.toInt ≤ 20) (hs : i.toInt ≤ j.toInt ∧ (j.toInt ≤ 6 ∨ j.toInt = i.toInt)) : ¬ (j + (1 : Int32)) < en := by
  rw [Int32.lt_iff_toInt_lt, own_add (c := 1) rfl (by omega) (by omega) (by decide) (by decide)]; omega
theorem own_w {i : Int32} {c : Int} (h : 0 ≤ i.toInt ∧ i.toInt ≤ c) (hc : c ≤ 20) : 0 ≤ i.toInt ∧ i.toInt ≤ 20 := by omega
theorem own_w3 {i : Int32} {c d : Int} (h : 0 ≤ i.toInt ∧ i.toInt ≤ c ∧ i.toInt = d) : 0 ≤ i.toInt ∧ i.toInt ≤ c := by omega
def f_pl (fr en : Int32) (B : Int32 → Int32) : Int32 := (if ((scan B en 8 fr) + (1 : Int32)) < en then (if (B ((scan B en 8 fr) + (1 : Int32))) = (33 : Int32) then (scan B en 8 fr) else (if (B ((scan B en 8 fr) + (1 : Int32))) = (63 : Int32) then (scan B en 8 fr) else (if ((scan B en 8 ((scan B en 8 fr) + (2 : Int32))) + (1 : Int32)) < en then (if (B ((scan B en 8 ((scan B en 8 fr) + (2 : Int32))) + (1 : Int32))) = (33 : Int32) then (scan B en 8 ((scan B en 8 fr) + (2 : Int32))) else (if (B ((scan B en 8 ((scan B en 8 fr) + (2 : Int32))) + (1 : Int32))) = (63 : Int32) then (scan B en 8 ((scan B en 8 fr) + (2 : Int32))) else (if ((scan B en 8 ((scan B en 8 ((scan B en 8 fr) + (2 : Int32))) + (2 : Int32))) + (1 : Int32)) < en then (if (B ((scan B en 8 ((scan B en 8 ((scan B en 8 fr) + (2 : Int32))) + (2 : Int32))) + (1 : Int32))) = (33 : Int32) then (scan B en 8 ((scan B en 8 ((scan B en 8 fr) + (2 : Int32))) + (2 : Int32))) else (if (B ((scan B en 8 ((scan B en 8 ((scan B en 8 fr) + (2 : Int32))) + (2 : Int32))) + (1 : Int32))) = (63 : Int32) then (scan B en 8 ((scan B en 8 ((scan B en 8 fr) + (2 : Int32))) + (2 : Int32))) else (if (scan B en 8 ((scan B en 8 ((scan B en 8 ((scan B en 8 fr) + (2 : Int32))) + (2 : Int32))) + (2 : Int32))) < en then (scan B en 8 ((scan B en 8 ((scan B en 8 ((scan B en 8 fr) + (2 : Int32))) + (2 : Int32))) + (2 : Int32))) else (scan B en 8 ((scan B en 8 ((scan B en 8 fr) + (2 : Int32))) + (2 : Int32)))))) else (if (scan B en 8 ((scan B en 8 ((scan B en 8 fr) + (2 : Int32))) + (2 : Int32))) < en then (scan B en 8 ((scan B en 8 ((scan B en 8 fr) + (2 : Int32))) + (2 : Int32))) else (scan B en 8 ((scan B en 8 fr) + (2 : Int32))))))) else (if (scan B en 8 ((scan B en 8 fr) + (2 : Int32))) < en then (scan B en 8 ((scan B en 8 fr) + (2 : Int32))) else (scan B en 8 fr))))) else (if (scan B en 8 fr) < en then (scan B en 8 fr) else (trm B fr 8 en)))
theorem ef_rm7 (m : MethodId) (x0 : Addr) (x1 : Int32) (x2 : Int32) : entryFrame m #[(.ref x0), (.int x1), (.int x2)] 7 = mkF m 0 #[.val (.ref x0), .val (.int x1), .val (.int x2), .unset, .unset, .unset, .unset] [] := by first | (simp [entryFrame, mkF, argsToLocals, Value.category]; done) | rfl
set_option maxRecDepth 65536 in
set_option maxHeartbeats 40000000 in
theorem rm7 (l : Launch) (Z : State) (a0 : Array Value) (hw : ∀ d ∈ tables_1, d.before a0 Z = true) (ws : List Jvm.Cond) (a : Addr) (fr : Int32) (en : Int32) (B : Int32 → Int32) (h0 : Heap) (hB : BA Z h0 a .byte (6 : Int32) B) (hf : 0 ≤ fr.toInt) (hfe : fr.toInt ≤ en.toInt) (hE : en.toInt ≤ 6) :
    MetFree l (⟨"com/example/facet/facet/xml/MarkupScanner", "plainUntil", "([BII)I"⟩ : MethodName) (head1 (Jvm.Cond.code (⟨"com/example/facet/facet/xml/MarkupScanner", "plainUntil", "([BII)I"⟩ : MethodName) prog_274_method_6_code 7 (some .int) :: ws) ({ frames := 0, cells := 0, slots := 0, locals := 0 } : Room)) (fun aQ U => aQ = #[(.ref a), (.int fr), (.int en)] ∧ Z.Warmed39 U.vm ∧ U.heap = h0) (fun _ _ _ _ _ => True) (fun _ U o U' => ∃ vQ LQ, o = .returned vQ ∧ PQ (some (.int (f_pl fr en B))) h0 vQ U'.heap LQ ∧ FrameEnd U o U' LQ ({ frames := 0, cells := 0, slots := 0, locals := 0 } : Room).cells ({ frames := 0, cells := 0, slots := 0, locals := 0 } : Room).slots) := by
  refine MetFree.of_bodySF (plainFor_of_name pn_7) hisR ?_
  intro p e s m args below meth c s₁ Bd hml0 hP hK
  obtain ⟨rfl, hZ, hh⟩ := hP
  have hx := Bd.exec
  have hby := Bd.bytes
  have hml : c.maxLocals = 7 := hml0
  have hown : s.vm.findClass "com/example/facet/facet/xml/MarkupScanner" = some m.cls := findClass_of_methodNamed Bd.named
  have hnm := (name_of_methodNamed Bd.named Bd.method).1
  have X0 : Stand p l e ({ frames := 0, cells := 0, slots := 0, locals := 0 } : Room) s m #[(.ref a), (.int fr), (.int en)] below meth c s₁ [] 0 0 := Stand.of_body Bd
  have e0 : s₁.heap = h0 := by rw [← hh, Bd.state]; rfl
  have hb0 : 0 ≤ fr.toInt ∧ fr.toInt ≤ 6 := by omega
  refine Gl.out ?_
  refine Gl.go ?_ (fun t k => castTop (ef_rm7 m a fr en) k)
  show Gl _ _ _ _ (s₁.setTop (mkF m 0 #[.val (.ref a), .val (.int fr), .val (.int en), .unset, .unset, .unset, .unset] []))
  refine Gl.go ?_ (fun t k => XS.iconst X0.here hx rfl (hb hby d7_0) k)
  show Gl _ _ _ _ (s₁.setTop (mkF m 1 #[.val (.ref a), .val (.int fr), .val (.int en), .unset, .unset, .unset, .unset] [(.int (-1 : Int32))]))
  refine Gl.go ?_ (fun t k => XS.istoreN X0.here hx rfl (hb hby d7_1) rfl (l' := #[.val (.ref a), .val (.int fr), .val (.int en), .val (.int (-1 : Int32)), .unset, .unset, .unset]) rfl k)
  show Gl _ _ _ _ (s₁.setTop (mkF m 2 #[.val (.ref a), .val (.int fr), .val (.int en), .val (.int (-1 : Int32)), .unset, .unset, .unset] []))
  refine Gl.go ?_ (fun t k => XS.iloadN X0.here hx rfl (hb hby d7_2) rfl k)
  show Gl _ _ _ _ (s₁.setTop (mkF m 3 #[.val (.ref a), .val (.int fr), .val (.int en), .val (.int (-1 : Int32)), .unset, .unset, .unset] [(.int fr)]))
  refine Gl.go ?_ (fun t k => XS.istore X0.here hx rfl (hb hby d7_3) rfl (l' := #[.val (.ref a), .val (.int fr), .val (.int en), .val (.int (-1 : Int32)), .val (.int fr), .unset, .unset]) rfl k)
  show Gl _ _ _ _ (s₁.setTop (mkF m 5 #[.val (.ref a), .val (.int fr), .val (.int en), .val (.int (-1 : Int32)), .val (.int fr), .unset, .unset] []))
  refine Gl.go ?_ (fun t k => XS.iconst X0.here hx rfl (hb hby d7_5) k)
  show Gl _ _ _ _ (s₁.setTop (mkF m 6 #[.val (.ref a), .val (.int fr), .val (.int en), .val (.int (-1 : Int32)), .val (.int fr), .unset, .unset] [(.int (1 : Int32))]))
  refine Gl.go ?_ (fun t k => XS.istore X0.here hx rfl (hb hby d7_6) rfl (l' := #[.val (.ref a), .val (.int fr), .val (.int en), .val (.int (-1 : Int32)), .val (.int fr), .val (.int (1 : Int32)), .unset]) rfl k)
  show Gl _ _ _ _ (s₁.setTop (mkF m 8 #[.val (.ref a), .val (.int fr), .val (.int en), .val (.int (-1 : Int32)), .val (.int fr), .val (.int (1 : Int32)), .unset] []))
  refine Gl.go ?_ (fun t k => XS.iload X0.here hx rfl (hb hby d7_8) rfl k)
  show Gl _ _ _ _ (s₁.setTop (mkF m 10 #[.val (.ref a), .val (.int fr), .val (.int en), .val (.int (-1 : Int32)), .val (.int fr), .val (.int (1 : Int32)), .unset] [(.int (1 : Int32))]))
  refine Gl.go ?_ (fun t k => XS.ifNo X0.here hx rfl (hb hby d7_10) rfl ((if0 _ _).trans (feq (by decide : ¬ ((1 : Int32) = (0 : Int32)))).1) k)
  refine loop_scan X0 hx hZ hby e0 a fr en (-1 : Int32) (1 : Int32) B hB hE 8 fr hb0.1 (by have := hb0.1; omega) ?_
  have hs69 := own_scan_ge (B := B) hE 8 fr (own_w (c := 6) hb0 (by decide)).1 (own_w (c := 6) hb0 (by decide)).2
  show Gl _ _ _ _ (s₁.setTop (mkF m 34 #[.val (.ref a), .val (.int fr), .val (.int en), .val (.int (-1 : Int32)), .val (.int (scan B en 8 fr)), .val (.int (1 : Int32)), .unset] []))
  refine Gl.go ?_ (fun t k => XS.iload X0.here hx rfl (hb hby d7_34) rfl k)
  show Gl _ _ _ _ (s₁.setTop (mkF m 36 #[.val (.ref a), .val (.int fr), .val (.int en), .val (.int (-1 : Int32)), .val (.int (scan B en 8 fr)), .val (.int (1 : Int32)), .unset] [(.int (scan B en 8 fr))]))
  refine Gl.go ?_ (fun t k => XS.iconst X0.here hx rfl (hb hby d7_36) k)
  show Gl _ _ _ _ (s₁.setTop (mkF m 37 #[.val (.ref a), .val (.int fr), .val (.int en), .val (.int (-1 : Int32)), .val (.int (scan B en 8 fr)), .val (.int (1 : Int32)), .unset] [(.int (1 : Int32)), (.int (scan B en 8 fr))]))
  refine Gl.go ?_ (fun t k => XS.iadd X0.here hx rfl (hb hby d7_37) rfl k)
  show Gl _ _ _ _ (s₁.setTop (mkF m 38 #[.val (.ref a), .val (.int fr), .val (.int en), .val (.int (-1 : Int32)), .val (.int (scan B en 8 fr)), .val (.int (1 : Int32)), .unset] [(.int ((scan B en 8 fr) + (1 : Int32)))]))
  refine Gl.go ?_ (fun t k => XS.iloadN X0.here hx rfl (hb hby d7_38) rfl k)
  show Gl _ _ _ _ (s₁.setTop (mkF m 39 #[.val (.ref a), .val (.int fr), .val (.int en), .val (.int (-1 : Int32)), .val (.int (scan B en 8 fr)), .val (.int (1 : Int32)), .unset] [(.int en), (.int ((scan B en 8 fr) + (1 : Int32)))]))
  by_cases hc70 : ((scan B en 8 fr) + (1 : Int32)) < en
  · refine Gl.go ?_ (fun t k => XS.icmpNo X0.here hx rfl (hb hby d7_39) rfl (tlt hc70).2.1 k)
    show Gl _ _ _ _ (s₁.setTop (mkF m 42 #[.val (.ref a), .val (.int fr), .val (.int en), .val (.int (-1 : Int32)), .val (.int (scan B en 8 fr)), .val (.int (1 : Int32)), .unset] []))
    refine Gl.go ?_ (fun t k => XS.aloadN X0.here hx rfl (hb hby d7_42) rfl rfl k)
    show Gl _ _ _ _ (s₁.setTop (mkF m 43 #[.val (.ref a), .val (.int fr), .val (.int en), .val (.int (-1 : Int32)), .val (.int (scan B en 8 fr)), .val (.int (1 : Int32)), .unset] [(.ref a)]))
    refine Gl.go ?_ (fun t k => XS.iload X0.here hx rfl (hb hby d7_43) rfl k)
    show Gl _ _ _ _ (s₁.setTop (mkF m 45 #[.val (.ref a), .val (.int fr), .val (.int en), .val (.int (-1 : Int32)), .val (.int (scan B en 8 fr)), .val (.int (1 : Int32)), .unset] [(.int (scan B en 8 fr)), (.ref a)]))
    refine Gl.go ?_ (fun t k => XS.iconst X0.here hx rfl (hb hby d7_45) k)
    show Gl _ _ _ _ (s₁.setTop (mkF m 46 #[.val (.ref a), .val (.int fr), .val (.int en), .val (.int (-1 : Int32)), .val (.int (scan B en 8 fr)), .val (.int (1 : Int32)), .unset] [(.int (1 : Int32)), (.int (scan B en 8 fr)), (.ref a)]))
    refine Gl.go ?_ (fun t k => XS.iadd X0.here hx rfl (hb hby d7_46) rfl k)
    show Gl _ _ _ _ (s₁.setTop (mkF m 47 #[.val (.ref a), .val (.int fr), .val (.int en), .val (.int (-1 : Int32)), .val (.int (scan B en 8 fr)), .val (.int (1 : Int32)), .unset] [(.int ((scan B en 8 fr) + (1 : Int32))), (.ref a)]))
    refine Gl.go ?_ (BA.rdB hB X0 hx hZ e0 (own_in (own_j1 (own_w (c := 6) hb0 (by decide)) hs69) hE hc70).1 (own_in (own_j1 (own_w (c := 6) hb0 (by decide)) hs69) hE hc70).2 (g := (mkF m 47 #[.val (.ref a), .val (.int fr), .val (.int en), .val (.int (-1 : Int32)), .val (.int (scan B en 8 fr)), .val (.int (1 : Int32)), .unset] [(.int ((scan B en 8 fr) + (1 : Int32))), (.ref a)])) rfl rfl (hb hby d7_47))
    show Gl _ _ _ _ (s₁.setTop (mkF m 48 #[.val (.ref a), .val (.int fr), .val (.int en), .val (.int (-1 : Int32)), .val (.int (scan B en 8 fr)), .val (.int (1 : Int32)), .unset] [(.int (B ((scan B en 8 fr) + (1 : Int32))))]))
    refine Gl.go ?_ (fun t k => XS.bipush X0.here hx rfl (hb hby d7_48) k)
    show Gl _ _ _ _ (s₁.setTop (mkF m 50 #[.val (.ref a), .val (.int fr), .val (.int en), .val (.int (-1 : Int32)), .val (.int (scan B en 8 fr)), .val (.int (1 : Int32)), .unset] [(.int (33 : Int32)), (.int (B ((scan B en 8 fr) + (1 : Int32))))]))
    by_cases hc71 : (B ((scan B en 8 fr) + (1 : Int32))) = (33 : Int32)
    · refine Gl.go ?_ (fun t k => XS.icmpYes X0.here hx rfl (pc0 := 50) (pc' := 68) rfl (hb hby d7_50) rfl (teq hc71).1 (by decide) (by decide) k)
      show Gl _ _ _ _ (s₁.setTop (mkF m 68 #[.val (.ref a), .val (.int fr), .val (.int en), .val (.int (-1 : Int32)), .val (.int (scan B en 8 fr)), .val (.int (1 : Int32)), .unset] []))
      refine Gl.go ?_ (fun t k => XS.iconst X0.here hx rfl (hb hby d7_68) k)
      show Gl _ _ _ _ (s₁.setTop (mkF m 69 #[.val (.ref a), .val (.int fr), .val (.int en), .val (.int (-1 : Int32)), .val (.int (scan B en 8 fr)), .val (.int (1 : Int32)), .unset] [(.int (0 : Int32))]))
      refine Gl.go ?_ (fun t k => XS.istore X0.here hx rfl (hb hby d7_69) rfl (l' := #[.val (.ref a), .val (.int fr), .val (.int en), .val (.int (-1 : Int32)), .val (.int (scan B en 8 fr)), .val (.int (0 : Int32)), .unset]) rfl k)
      show Gl _ _ _ _ (s₁.setTop (mkF m 71 #[.val (.ref a), .val (.int fr), .val (.int en), .val (.int (-1 : Int32)), .val (.int (scan B en 8 fr)), .val (.int (0 : Int32)), .unset] []))
      refine Gl.go ?_ (fun t k => XS.iload X0.here hx rfl (hb hby d7_71) rfl k)
      show Gl _ _ _ _ (s₁.setTop (mkF m 73 #[.val (.ref a), .val (.int fr), .val (.int en), .val (.int (-1 : Int32)), .val (.int (scan B en 8 fr)), .val (.int (0 : Int32)), .unset] [(.int (scan B en 8 fr))]))
      refine Gl.go ?_ (fun t k => XS.iloadN X0.here hx rfl (hb hby d7_73) rfl k)
      show Gl _ _ _ _ (s₁.setTop (mkF m 74 #[.val (.ref a), .val (.int fr), .val (.int en), .val (.int (-1 : Int32)), .val (.int (scan B en 8 fr)), .val (.int (0 : Int32)), .unset] [(.int en), (.int (scan B en 8 fr))]))
      refine Gl.go ?_ (fun t k => XS.icmpNo X0.here hx rfl (hb hby d7_74) rfl (tlt (own_j2 (own_w (c := 6) hb0 (by decide)) hs69 hc70)).2.1 k)
      show Gl _ _ _ _ (s₁.setTop (mkF m 77 #[.val (.ref a), .val (.int fr), .val (.int en), .val (.int (-1 : Int32)), .val (.int (scan B en 8 fr)), .val (.int (0 : Int32)), .unset] []))
      refine Gl.go ?_ (fun t k => XS.iload X0.here hx rfl (hb hby d7_77) rfl k)
      show Gl _ _ _ _ (s₁.setTop (mkF m 79 #[.val (.ref a), .val (.int fr), .val (.int en), .val (.int (-1 : Int32)), .val (.int (scan B en 8 fr)), .val (.int (0 : Int32)), .unset] [(.int (scan B en 8 fr))]))
      refine Gl.go ?_ (fun t k => XS.istoreN X0.here hx rfl (hb hby d7_79) rfl (l' := #[.val (.ref a), .val (.int fr), .val (.int en), .val (.int (scan B en 8 fr)), .val (.int (scan B en 8 fr)), .val (.int (0 : Int32)), .unset]) rfl k)
      show Gl _ _ _ _ (s₁.setTop (mkF m 80 #[.val (.ref a), .val (.int fr), .val (.int en), .val (.int (scan B en 8 fr)), .val (.int (scan B en 8 fr)), .val (.int (0 : Int32)), .unset] []))
      refine Gl.go ?_ (fun t k => XS.iinc X0.here hx rfl (hb hby d7_80) rfl (l' := #[.val (.ref a), .val (.int fr), .val (.int en), .val (.int (scan B en 8 fr)), .val (.int ((scan B en 8 fr) + (2 : Int32))), .val (.int (0 : Int32)), .unset]) rfl k)
      show Gl _ _ _ _ (s₁.setTop (mkF m 83 #[.val (.ref a), .val (.int fr), .val (.int en), .val (.int (scan B en 8 fr)), .val (.int ((scan B en 8 fr) + (2 : Int32))), .val (.int (0 : Int32)), .unset] []))
      have hu72 := own_up2 (c := 6) hb0 hs69 (by decide) (by decide)
      have hb73 : 0 ≤ (((scan B en 8 fr) + (2 : Int32))).toInt ∧ (((scan B en 8 fr) + (2 : Int32))).toInt ≤ 8 := own_w3 hu72
      refine Gl.go ?_ (fun t k => XS.goto X0.here hx rfl (pc0 := 83) (pc' := 8) rfl (hb hby d7_83) (by decide) (by decide) k)
      show Gl _ _ _ _ (s₁.setTop (mkF m 8 #[.val (.ref a), .val (.int fr), .val (.int en), .val (.int (scan B en 8 fr)), .val (.int ((scan B en 8 fr) + (2 : Int32))), .val (.int (0 : Int32)), .unset] []))
      refine Gl.go ?_ (fun t k => XS.iload X0.here hx rfl (hb hby d7_8) rfl k)
      show Gl _ _ _ _ (s₁.setTop (mkF m 10 #[.val (.ref a), .val (.int fr), .val (.int en), .val (.int (scan B en 8 fr)), .val (.int ((scan B en 8 fr) + (2 : Int32))), .val (.int (0 : Int32)), .unset] [(.int (0 : Int32))]))
      refine Gl.go ?_ (fun t k => XS.ifYes X0.here hx rfl (pc0 := 10) (pc' := 86) rfl (hb hby d7_10) rfl ((if0 _ _).trans (teq (by decide : (0 : Int32) = (0 : Int32))).1) (by decide) (by decide) k)
      show Gl _ _ _ _ (s₁.setTop (mkF m 86 #[.val (.ref a), .val (.int fr), .val (.int en), .val (.int (scan B en 8 fr)), .val (.int ((scan B en 8 fr) + (2 : Int32))), .val (.int (0 : Int32)), .unset] []))
      refine Gl.go ?_ (fun t k => XS.iloadN X0.here hx rfl (hb hby d7_86) rfl k)
      show Gl _ _ _ _ (s₁.setTop (mkF m 87 #[.val (.ref a), .val (.int fr), .val (.int en), .val (.int (scan B en 8 fr)), .val (.int ((scan B en 8 fr) + (2 : Int32))), .val (.int (0 : Int32)), .unset] [(.int (scan B en 8 fr))]))
      refine Gl.go ?_ (fun t k => XS.istore X0.here hx rfl (hb hby d7_87) rfl (l' := #[.val (.ref a), .val (.int fr), .val (.int en), .val (.int (scan B en 8 fr)), .val (.int ((scan B en 8 fr) + (2 : Int32))), .val (.int (0 : Int32)), .val (.int (scan B en 8 fr))]) rfl k)
      show Gl _ _ _ _ (s₁.setTop (mkF m 89 #[.val (.ref a), .val (.int fr), .val (.int en), .val (.int (scan B en 8 fr)), .val (.int ((scan B en 8 fr) + (2 : Int32))), .val (.int (0 : Int32)), .val (.int (scan B en 8 fr))] []))
      refine Gl.go ?_ (fun t k => XS.iloadN X0.here hx rfl (hb hby d7_89) rfl k)
      show Gl _ _ _ _ (s₁.setTop (mkF m 90 #[.val (.ref a), .val (.int fr), .val (.int en), .val (.int (scan B en 8 fr)), .val (.int ((scan B en 8 fr) + (2 : Int32))), .val (.int (0 : Int32)), .val (.int (scan B en 8 fr))] [(.int (scan B en 8 fr))]))
      refine Gl.go ?_ (fun t k => XS.ifYes X0.here hx rfl (pc0 := 90) (pc' := 119) rfl (hb hby d7_90) rfl ((if0 _ _).trans (flt (iv_nlt' (k := 0) rfl (Int.le_trans hb0.1 hs69.1))).2.1) (by decide) (by decide) k)
      show Gl _ _ _ _ (s₁.setTop (mkF m 119 #[.val (.ref a), .val (.int fr), .val (.int en), .val (.int (scan B en 8 fr)), .val (.int ((scan B en 8 fr) + (2 : Int32))), .val (.int (0 : Int32)), .val (.int (scan B en 8 fr))] []))
      refine Gl.go ?_ (fun t k => XS.iload X0.here hx rfl (hb hby d7_119) rfl k)
      show Gl _ _ _ _ (s₁.setTop (mkF m 121 #[.val (.ref a), .val (.int fr), .val (.int en), .val (.int (scan B en 8 fr)), .val (.int ((scan B en 8 fr) + (2 : Int32))), .val (.int (0 : Int32)), .val (.int (scan B en 8 fr))] [(.int (scan B en 8 fr))]))
      obtain ⟨fs, hr, hrun, hended, hW, hsame⟩ := X0.leave (v := some (.int (scan B en 8 fr))) (fun h => by rw [Bd.returns] at h; cases h) (BodyLoose.notSynchronized Bd)
      exact Gl.mk ⟨_, _, retI X0 hx Bd.returns (hb hby d7_121) hr, hrun, hended, _, _, rfl, ⟨congrArg (fun z => some (Value.int z)) ((if_pos hc70).trans ((if_pos hc71).trans (rfl))).symm, rfl, e0⟩, ⟨_, rfl⟩, hW, hsame.mono (by decide) (by decide)⟩
    · refine Gl.go ?_ (fun t k => XS.icmpNo X0.here hx rfl (hb hby d7_50) rfl (feq hc71).1 k)
      show Gl _ _ _ _ (s₁.setTop (mkF m 53 #[.val (.ref a), .val (.int fr), .val (.int en), .val (.int (-1 : Int32)), .val (.int (scan B en 8 fr)), .val (.int (1 : Int32)), .unset] []))
      refine Gl.go ?_ (fun t k => XS.aloadN X0.here hx rfl (hb hby d7_53) rfl rfl k)
      show Gl _ _ _ _ (s₁.setTop (mkF m 54 #[.val (.ref a), .val (.int fr), .val (.int en), .val (.int (-1 : Int32)), .val (.int (scan B en 8 fr)), .val (.int (1 : Int32)), .unset] [(.ref a)]))
      refine Gl.go ?_ (fun t k => XS.iload X0.here hx rfl (hb hby d7_54) rfl k)
      show Gl _ _ _ _ (s₁.setTop (mkF m 56 #[.val (.ref a), .val (.int fr), .val (.int en), .val (.int (-1 : Int32)), .val (.int (scan B en 8 fr)), .val (.int (1 : Int32)), .unset] [(.int (scan B en 8 fr)), (.ref a)]))
      refine Gl.go ?_ (fun t k => XS.iconst X0.here hx rfl (hb hby d7_56) k)
      show Gl _ _ _ _ (s₁.setTop (mkF m 57 #[.val (.ref a), .val (.int fr), .val (.int en), .val (.int (-1 : Int32)), .val (.int (scan B en 8 fr)), .val (.int (1 : Int32)), .unset] [(.int (1 : Int32)), (.int (scan B en 8 fr)), (.ref a)]))
      refine Gl.go ?_ (fun t k => XS.iadd X0.here hx rfl (hb hby d7_57) rfl k)
      show Gl _ _ _ _ (s₁.setTop (mkF m 58 #[.val (.ref a), .val (.int fr), .val (.int en), .val (.int (-1 : Int32)), .val (.int (scan B en 8 fr)), .val (.int (1 : Int32)), .unset] [(.int ((scan B en 8 fr) + (1 : Int32))), (.ref a)]))
      refine Gl.go ?_ (BA.rdB hB X0 hx hZ e0 (own_in (own_j1 (own_w (c := 6) hb0 (by decide)) hs69) hE hc70).1 (own_in (own_j1 (own_w (c := 6) hb0 (by decide)) hs69) hE hc70).2 (g := (mkF m 58 #[.val (.ref a), .val (.int fr), .val (.int en), .val (.int (-1 : Int32)), .val (.int (scan B en 8 fr)), .val (.int (1 : Int32)), .unset] [(.int ((scan B en 8 fr) + (1 : Int32))), (.ref a)])) rfl rfl (hb hby d7_58))
      show Gl _ _ _ _ (s₁.setTop (mkF m 59 #[.val (.ref a), .val (.int fr), .val (.int en), .val (.int (-1 : Int32)), .val (.int (scan B en 8 fr)), .val (.int (1 : Int32)), .unset] [(.int (B ((scan B en 8 fr) + (1 : Int32))))]))
      refine Gl.go ?_ (fun t k => XS.bipush X0.here hx rfl (hb hby d7_59) k)
      show Gl _ _ _ _ (s₁.setTop (mkF m 61 #[.val (.ref a), .val (.int fr), .val (.int en), .val (.int (-1 : Int32)), .val (.int (scan B en 8 fr)), .val (.int (1 : Int32)), .unset] [(.int (63 : Int32)), (.int (B ((scan B en 8 fr) + (1 : Int32))))]))
      by_cases hc74 : (B ((scan B en 8 fr) + (1 : Int32))) = (63 : Int32)
      · refine Gl.go ?_ (fun t k => XS.icmpYes X0.here hx rfl (pc0 := 61) (pc' := 68) rfl (hb hby d7_61) rfl (teq hc74).1 (by decide) (by decide) k)
        show Gl _ _ _ _ (s₁.setTop (mkF m 68 #[.val (.ref a), .val (.int fr), .val (.int en), .val (.int (-1 : Int32)), .val (.int (scan B en 8 fr)), .val (.int (1 : Int32)), .unset] []))
        refine Gl.go ?_ (fun t k => XS.iconst X0.here hx rfl (hb hby d7_68) k)
        show Gl _ _ _ _ (s₁.setTop (mkF m 69 #[.val (.ref a), .val (.int fr), .val (.int en), .val (.int (-1 : Int32)), .val (.int (scan B en 8 fr)), .val (.int (1 : Int32)), .unset] [(.int (0 : Int32))]))
        refine Gl.go ?_ (fun t k => XS.istore X0.here hx rfl (hb hby d7_69) rfl (l' := #[.val (.ref a), .val (.int fr), .val (.int en), .val (.int (-1 : Int32)), .val (.int (scan B en 8 fr)), .val (.int (0 : Int32)), .unset]) rfl k)
        show Gl _ _ _ _ (s₁.setTop (mkF m 71 #[.val (.ref a), .val (.int fr), .val (.int en), .val (.int (-1 : Int32)), .val (.int (scan B en 8 fr)), .val (.int (0 : Int32)), .unset] []))
        refine Gl.go ?_ (fun t k => XS.iload X0.here hx rfl (hb hby d7_71) rfl k)
        show Gl _ _ _ _ (s₁.setTop (mkF m 73 #[.val (.ref a), .val (.int fr), .val (.int en), .val (.int (-1 : Int32)), .val (.int (scan B en 8 fr)), .val (.int (0 : Int32)), .unset] [(.int (scan B en 8 fr))]))
        refine Gl.go ?_ (fun t k => XS.iloadN X0.here hx rfl (hb hby d7_73) rfl k)
        show Gl _ _ _ _ (s₁.setTop (mkF m 74 #[.val (.ref a), .val (.int fr), .val (.int en), .val (.int (-1 : Int32)), .val (.int (scan B en 8 fr)), .val (.int (0 : Int32)), .unset] [(.int en), (.int (scan B en 8 fr))]))
        refine Gl.go ?_ (fun t k => XS.icmpNo X0.here hx rfl (hb hby d7_74) rfl (tlt (own_j2 (own_w (c := 6) hb0 (by decide)) hs69 hc70)).2.1 k)
        show Gl _ _ _ _ (s₁.setTop (mkF m 77 #[.val (.ref a), .val (.int fr), .val (.int en), .val (.int (-1 : Int32)), .val (.int (scan B en 8 fr)), .val (.int (0 : Int32)), .unset] []))
        refine Gl.go ?_ (fun t k => XS.iload X0.here hx rfl (hb hby d7_77) rfl k)
        show Gl _ _ _ _ (s₁.setTop (mkF m 79 #[.val (.ref a), .val (.int fr), .val (.int en), .val (.int (-1 : Int32)), .val (.int (scan B en 8 fr)), .val (.int (0 : Int32)), .unset] [(.int (scan B en 8 fr))]))
        refine Gl.go ?_ (fun t k => XS.istoreN X0.here hx rfl (hb hby d7_79) rfl (l' := #[.val (.ref a), .val (.int fr), .val (.int en), .val (.int (scan B en 8 fr)), .val (.int (scan B en 8 fr)), .val (.int (0 : Int32)), .unset]) rfl k)
        show Gl _ _ _ _ (s₁.setTop (mkF m 80 #[.val (.ref a), .val (.int fr), .val (.int en), .val (.int (scan B en 8 fr)), .val (.int (scan B en 8 fr)), .val (.int (0 : Int32)), .unset] []))
        refine Gl.go ?_ (fun t k => XS.iinc X0.here hx rfl (hb hby d7_80) rfl (l' := #[.val (.ref a), .val (.int fr), .val (.int en), .val (.int (scan B en 8 fr)), .val (.int ((scan B en 8 fr) + (2 : Int32))), .val (.int (0 : Int32)), .unset]) rfl k)
        show Gl _ _ _ _ (s₁.setTop (mkF m 83 #[.val (.ref a), .val (.int fr), .val (.int en), .val (.int (scan B en 8 fr)), .val (.int ((scan B en 8 fr) + (2 : Int32))), .val (.int (0 : Int32)), .unset] []))
        have hu75 := own_up2 (c := 6) hb0 hs69 (by decide) (by decide)
        have hb76 : 0 ≤ (((scan B en 8 fr) + (2 : Int32))).toInt ∧ (((scan B en 8 fr) + (2 : Int32))).toInt ≤ 8 := own_w3 hu75
        refine Gl.go ?_ (fun t k => XS.goto X0.here hx rfl (pc0 := 83) (pc' := 8) rfl (hb hby d7_83) (by decide) (by decide) k)
        show Gl _ _ _ _ (s₁.setTop (mkF m 8 #[.val (.ref a), .val (.int fr), .val (.int en), .val (.int (scan B en 8 fr)), .val (.int ((scan B en 8 fr) + (2 : Int32))), .val (.int (0 : Int32)), .unset] []))
        refine Gl.go ?_ (fun t k => XS.iload X0.here hx rfl (hb hby d7_8) rfl k)
        show Gl _ _ _ _ (s₁.setTop (mkF m 10 #[.val (.ref a), .val (.int fr), .val (.int en), .val (.int (scan B en 8 fr)), .val (.int ((scan B en 8 fr) + (2 : Int32))), .val (.int (0 : Int32)), .unset] [(.int (0 : Int32))]))
        refine Gl.go ?_ (fun t k => XS.ifYes X0.here hx rfl (pc0 := 10) (pc' := 86) rfl (hb hby d7_10) rfl ((if0 _ _).trans (teq (by decide : (0 : Int32) = (0 : Int32))).1) (by decide) (by decide) k)
        show Gl _ _ _ _ (s₁.setTop (mkF m 86 #[.val (.ref a), .val (.int fr), .val (.int en), .val (.int (scan B en 8 fr)), .val (.int ((scan B en 8 fr) + (2 : Int32))), .val (.int (0 : Int32)), .unset] []))
        refine Gl.go ?_ (fun t k => XS.iloadN X0.here hx rfl (hb hby d7_86) rfl k)
        show Gl _ _ _ _ (s₁.setTop (mkF m 87 #[.val (.ref a), .val (.int fr), .val (.int en), .val (.int (scan B en 8 fr)), .val (.int ((scan B en 8 fr) + (2 : Int32))), .val (.int (0 : Int32)), .unset] [(.int (scan B en 8 fr))]))
        refine Gl.go ?_ (fun t k => XS.istore X0.here hx rfl (hb hby d7_87) rfl (l' := #[.val (.ref a), .val (.int fr), .val (.int en), .val (.int (scan B en 8 fr)), .val (.int ((scan B en 8 fr) + (2 : Int32))), .val (.int (0 : Int32)), .val (.int (scan B en 8 fr))]) rfl k)
        show Gl _ _ _ _ (s₁.setTop (mkF m 89 #[.val (.ref a), .val (.int fr), .val (.int en), .val (.int (scan B en 8 fr)), .val (.int ((scan B en 8 fr) + (2 : Int32))), .val (.int (0 : Int32)), .val (.int (scan B en 8 fr))] []))
        refine Gl.go ?_ (fun t k => XS.iloadN X0.here hx rfl (hb hby d7_89) rfl k)
        show Gl _ _ _ _ (s₁.setTop (mkF m 90 #[.val (.ref a), .val (.int fr), .val (.int en), .val (.int (scan B en 8 fr)), .val (.int ((scan B en 8 fr) + (2 : Int32))), .val (.int (0 : Int32)), .val (.int (scan B en 8 fr))] [(.int (scan B en 8 fr))]))
        refine Gl.go ?_ (fun t k => XS.ifYes X0.here hx rfl (pc0 := 90) (pc' := 119) rfl (hb hby d7_90) rfl ((if0 _ _).trans (flt (iv_nlt' (k := 0) rfl (Int.le_trans hb0.1 hs69.1))).2.1) (by decide) (by decide) k)
        show Gl _ _ _ _ (s₁.setTop (mkF m 119 #[.val (.ref a), .val (.int fr), .val (.int en), .val (.int (scan B en 8 fr)), .val (.int ((scan B en 8 fr) + (2 : Int32))), .val (.int (0 : Int32)), .val (.int (scan B en 8 fr))] []))
        refine Gl.go ?_ (fun t k => XS.iload X0.here hx rfl (hb hby d7_119) rfl k)
        show Gl _ _ _ _ (s₁.setTop (mkF m 121 #[.val (.ref a), .val (.int fr), .val (.int en), .val (.int (scan B en 8 fr)), .val (.int ((scan B en 8 fr) + (2 : Int32))), .val (.int (0 : Int32)), .val (.int (scan B en 8 fr))] [(.int (scan B en 8 fr))]))
        obtain ⟨fs, hr, hrun, hended, hW, hsame⟩ := X0.leave (v := some (.int (scan B en 8 fr))) (fun h => by rw [Bd.returns] at h; cases h) (BodyLoose.notSynchronized Bd)
        exact Gl.mk ⟨_, _, retI X0 hx Bd.returns (hb hby d7_121) hr, hrun, hended, _, _, rfl, ⟨congrArg (fun z => some (Value.int z)) ((if_pos hc70).trans ((if_neg hc71).trans ((if_pos hc74).trans (rfl)))).symm, rfl, e0⟩, ⟨_, rfl⟩, hW, hsame.mono (by decide) (by decide)⟩
      · refine Gl.go ?_ (fun t k => XS.icmpNo X0.here hx rfl (hb hby d7_61) rfl (feq hc74).1 k)
        show Gl _ _ _ _ (s₁.setTop (mkF m 64 #[.val (.ref a), .val (.int fr), .val (.int en), .val (.int (-1 : Int32)), .val (.int (scan B en 8 fr)), .val (.int (1 : Int32)), .unset] []))
        refine Gl.go ?_ (fun t k => XS.iconst X0.here hx rfl (hb hby d7_64) k)
        show Gl _ _ _ _ (s₁.setTop (mkF m 65 #[.val (.ref a), .val (.int fr), .val (.int en), .val (.int (-1 : Int32)), .val (.int (scan B en 8 fr)), .val (.int (1 : Int32)), .unset] [(.int (1 : Int32))]))
        refine Gl.go ?_ (fun t k => XS.goto X0.here hx rfl (pc0 := 65) (pc' := 69) rfl (hb hby d7_65) (by decide) (by decide) k)
        show Gl _ _ _ _ (s₁.setTop (mkF m 69 #[.val (.ref a), .val (.int fr), .val (.int en), .val (.int (-1 : Int32)), .val (.int (scan B en 8 fr)), .val (.int (1 : Int32)), .unset] [(.int (1 : Int32))]))
        refine Gl.go ?_ (fun t k => XS.istore X0.here hx rfl (hb hby d7_69) rfl (l' := #[.val (.ref a), .val (.int fr), .val (.int en), .val (.int (-1 : Int32)), .val (.int (scan B en 8 fr)), .val (.int (1 : Int32)), .unset]) rfl k)
        show Gl _ _ _ _ (s₁.setTop (mkF m 71 #[.val (.ref a), .val (.int fr), .val (.int en), .val (.int (-1 : Int32)), .val (.int (scan B en 8 fr)), .val (.int (1 : Int32)), .unset] []))
        refine Gl.go ?_ (fun t k => XS.iload X0.here hx rfl (hb hby d7_71) rfl k)
        show Gl _ _ _ _ (s₁.setTop (mkF m 73 #[.val (.ref a), .val (.int fr), .val (.int en), .val (.int (-1 : Int32)), .val (.int (scan B en 8 fr)), .val (.int (1 : Int32)), .unset] [(.int (scan B en 8 fr))]))
        refine Gl.go ?_ (fun t k => XS.iloadN X0.here hx rfl (hb hby d7_73) rfl k)
        show Gl _ _ _ _ (s₁.setTop (mkF m 74 #[.val (.ref a), .val (.int fr), .val (.int en), .val (.int (-1 : Int32)), .val (.int (scan B en 8 fr)), .val (.int (1 : Int32)), .unset] [(.int en), (.int (scan B en 8 fr))]))
        refine Gl.go ?_ (fun t k => XS.icmpNo X0.here hx rfl (hb hby d7_74) rfl (tlt (own_j2 (own_w (c := 6) hb0 (by decide)) hs69 hc70)).2.1 k)
        show Gl _ _ _ _ (s₁.setTop (mkF m 77 #[.val (.ref a), .val (.int fr), .val (.int en), .val (.int (-1 : Int32)), .val (.int (scan B en 8 fr)), .val (.int (1 : Int32)), .unset] []))
        refine Gl.go ?_ (fun t k => XS.iload X0.here hx rfl (hb hby d7_77) rfl k)
        show Gl _ _ _ _ (s₁.setTop (mkF m 79 #[.val (.ref a), .val (.int fr), .val (.int en), .val (.int (-1 : Int32)), .val (.int (scan B en 8 fr)), .val (.int (1 : Int32)), .unset] [(.int (scan B en 8 fr))]))
        refine Gl.go ?_ (fun t k => XS.istoreN X0.here hx rfl (hb hby d7_79) rfl (l' := #[.val (.ref a), .val (.int fr), .val (.int en), .val (.int (scan B en 8 fr)), .val (.int (scan B en 8 fr)), .val (.int (1 : Int32)), .unset]) rfl k)
        show Gl _ _ _ _ (s₁.setTop (mkF m 80 #[.val (.ref a), .val (.int fr), .val (.int en), .val (.int (scan B en 8 fr)), .val (.int (scan B en 8 fr)), .val (.int (1 : Int32)), .unset] []))
        refine Gl.go ?_ (fun t k => XS.iinc X0.here hx rfl (hb hby d7_80) rfl (l' := #[.val (.ref a), .val (.int fr), .val (.int en), .val (.int (scan B en 8 fr)), .val (.int ((scan B en 8 fr) + (2 : Int32))), .val (.int (1 : Int32)), .unset]) rfl k)
        show Gl _ _ _ _ (s₁.setTop (mkF m 83 #[.val (.ref a), .val (.int fr), .val (.int en), .val (.int (scan B en 8 fr)), .val (.int ((scan B en 8 fr) + (2 : Int32))), .val (.int (1 : Int32)), .unset] []))
        have hu77 := own_up2 (c := 6) hb0 hs69 (by decide) (by decide)
        have hb78 : 0 ≤ (((scan B en 8 fr) + (2 : Int32))).toInt ∧ (((scan B en 8 fr) + (2 : Int32))).toInt ≤ 8 := own_w3 hu77
        refine Gl.go ?_ (fun t k => XS.goto X0.here hx rfl (pc0 := 83) (pc' := 8) rfl (hb hby d7_83) (by decide) (by decide) k)
        show Gl _ _ _ _ (s₁.setTop (mkF m 8 #[.val (.ref a), .val (.int fr), .val (.int en), .val (.int (scan B en 8 fr)), .val (.int ((scan B en 8 fr) + (2 : Int32))), .val (.int (1 : Int32)), .unset] []))
        refine Gl.go ?_ (fun t k => XS.iload X0.here hx rfl (hb hby d7_8) rfl k)
        show Gl _ _ _ _ (s₁.setTop (mkF m 10 #[.val (.ref a), .val (.int fr), .val (.int en), .val (.int (scan B en 8 fr)), .val (.int ((scan B en 8 fr) + (2 : Int32))), .val (.int (1 : Int32)), .unset] [(.int (1 : Int32))]))
        refine Gl.go ?_ (fun t k => XS.ifNo X0.here hx rfl (hb hby d7_10) rfl ((if0 _ _).trans (feq (by decide : ¬ ((1 : Int32) = (0 : Int32)))).1) k)
        refine loop_scan X0 hx hZ hby e0 a fr en (scan B en 8 fr) (1 : Int32) B hB hE 8 ((scan B en 8 fr) + (2 : Int32)) hb78.1 (by have := hb78.1; omega) ?_
        have hs79 := own_scan_ge (B := B) hE 8 ((scan B en 8 fr) + (2 : Int32)) (own_w (c := 8) hb78 (by decide)).1 (own_w (c := 8) hb78 (by decide)).2
        show Gl _ _ _ _ (s₁.setTop (mkF m 34 #[.val (.ref a), .val (.int fr), .val (.int en), .val (.int (scan B en 8 fr)), .val (.int (scan B en 8 ((scan B en 8 fr) + (2 : Int32)))), .val (.int (1 : Int32)), .unset] []))
        refine Gl.go ?_ (fun t k => XS.iload X0.here hx rfl (hb hby d7_34) rfl k)
        show Gl _ _ _ _ (s₁.setTop (mkF m 36 #[.val (.ref a), .val (.int fr), .val (.int en), .val (.int (scan B en 8 fr)), .val (.int (scan B en 8 ((scan B en 8 fr) + (2 : Int32)))), .val (.int (1 : Int32)), .unset] [(.int (scan B en 8 ((scan B en 8 fr) + (2 : Int32))))]))
        refine Gl.go ?_ (fun t k => XS.iconst X0.here hx rfl (hb hby d7_36) k)
        show Gl _ _ _ _ (s₁.setTop (mkF m 37 #[.val (.ref a), .val (.int fr), .val (.int en), .val (.int (scan B en 8 fr)), .val (.int (scan B en 8 ((scan B en 8 fr) + (2 : Int32)))), .val (.int (1 : Int32)), .unset] [(.int (1 : Int32)), (.int (scan B en 8 ((scan B en 8 fr) + (2 : Int32))))]))
        refine Gl.go ?_ (fun t k => XS.iadd X0.here hx rfl (hb hby d7_37) rfl k)
        show Gl _ _ _ _ (s₁.setTop (mkF m 38 #[.val (.ref a), .val (.int fr), .val (.int en), .val (.int (scan B en 8 fr)), .val (.int (scan B en 8 ((scan B en 8 fr) + (2 : Int32)))), .val (.int (1 : Int32)), .unset] [(.int ((scan B en 8 ((scan B en 8 fr) + (2 : Int32))) + (1 : Int32)))]))
        refine Gl.go ?_ (fun t k => XS.iloadN X0.here hx rfl (hb hby d7_38) rfl k)
        show Gl _ _ _ _ (s₁.setTop (mkF m 39 #[.val (.ref a), .val (.int fr), .val (.int en), .val (.int (scan B en 8 fr)), .val (.int (scan B en 8 ((scan B en 8 fr) + (2 : Int32)))), .val (.int (1 : Int32)), .unset] [(.int en), (.int ((scan B en 8 ((scan B en 8 fr) + (2 : Int32))) + (1 : Int32)))]))
        by_cases hc80 : ((scan B en 8 ((scan B en 8 fr) + (2 : Int32))) + (1 : Int32)) < en
        · refine Gl.go ?_ (fun t k => XS.icmpNo X0.here hx rfl (hb hby d7_39) rfl (tlt hc80).2.1 k)
          show Gl _ _ _ _ (s₁.setTop (mkF m 42 #[.val (.ref a), .val (.int fr), .val (.int en), .val (.int (scan B en 8 fr)), .val (.int (scan B en 8 ((scan B en 8 fr) + (2 : Int32)))), .val (.int (1 : Int32)), .unset] []))
          refine Gl.go ?_ (fun t k => XS.aloadN X0.here hx rfl (hb hby d7_42) rfl rfl k)
          show Gl _ _ _ _ (s₁.setTop (mkF m 43 #[.val (.ref a), .val (.int fr), .val (.int en), .val (.int (scan B en 8 fr)), .val (.int (scan B en 8 ((scan B en 8 fr) + (2 : Int32)))), .val (.int (1 : Int32)), .unset] [(.ref a)]))
          refine Gl.go ?_ (fun t k => XS.iload X0.here hx rfl (hb hby d7_43) rfl k)
          show Gl _ _ _ _ (s₁.setTop (mkF m 45 #[.val (.ref a), .val (.int fr), .val (.int en), .val (.int (scan B en 8 fr)), .val (.int (scan B en 8 ((scan B en 8 fr) + (2 : Int32)))), .val (.int (1 : Int32)), .unset] [(.int (scan B en 8 ((scan B en 8 fr) + (2 : Int32)))), (.ref a)]))
          refine Gl.go ?_ (fun t k => XS.iconst X0.here hx rfl (hb hby d7_45) k)
          show Gl _ _ _ _ (s₁.setTop (mkF m 46 #[.val (.ref a), .val (.int fr), .val (.int en), .val (.int (scan B en 8 fr)), .val (.int (scan B en 8 ((scan B en 8 fr) + (2 : Int32)))), .val (.int (1 : Int32)), .unset] [(.int (1 : Int32)), (.int (scan B en 8 ((scan B en 8 fr) + (2 : Int32)))), (.ref a)]))
          refine Gl.go ?_ (fun t k => XS.iadd X0.here hx rfl (hb hby d7_46) rfl k)
          show Gl _ _ _ _ (s₁.setTop (mkF m 47 #[.val (.ref a), .val (.int fr), .val (.int en), .val (.int (scan B en 8 fr)), .val (.int (scan B en 8 ((scan B en 8 fr) + (2 : Int32)))), .val (.int (1 : Int32)), .unset] [(.int ((scan B en 8 ((scan B en 8 fr) + (2 : Int32))) + (1 : Int32))), (.ref a)]))
          refine Gl.go ?_ (BA.rdB hB X0 hx hZ e0 (own_in (own_j1 (own_w (c := 8) hb78 (by decide)) hs79) hE hc80).1 (own_in (own_j1 (own_w (c := 8) hb78 (by decide)) hs79) hE hc80).2 (g := (mkF m 47 #[.val (.ref a), .val (.int fr), .val (.int en), .val (.int (scan B en 8 fr)), .val (.int (scan B en 8 ((scan B en 8 fr) + (2 : Int32)))), .val (.int (1 : Int32)), .unset] [(.int ((scan B en 8 ((scan B en 8 fr) + (2 : Int32))) + (1 : Int32))), (.ref a)])) rfl rfl (hb hby d7_47))
          show Gl _ _ _ _ (s₁.setTop (mkF m 48 #[.val (.ref a), .val (.int fr), .val (.int en), .val (.int (scan B en 8 fr)), .val (.int (scan B en 8 ((scan B en 8 fr) + (2 : Int32)))), .val (.int (1 : Int32)), .unset] [(.int (B ((scan B en 8 ((scan B en 8 fr) + (2 : Int32))) + (1 : Int32))))]))
          refine Gl.go ?_ (fun t k => XS.bipush X0.here hx rfl (hb hby d7_48) k)
          show Gl _ _ _ _ (s₁.setTop (mkF m 50 #[.val (.ref a), .val (.int fr), .val (.int en), .val (.int (scan B en 8 fr)), .val (.int (scan B en 8 ((scan B en 8 fr) + (2 : Int32)))), .val (.int (1 : Int32)), .unset] [(.int (33 : Int32)), (.int (B ((scan B en 8 ((scan B en 8 fr) + (2 : Int32))) + (1 : Int32))))]))
          by_cases hc81 : (B ((scan B en 8 ((scan B en 8 fr) + (2 : Int32))) + (1 : Int32))) = (33 : Int32)
          · refine Gl.go ?_ (fun t k => XS.icmpYes X0.here hx rfl (pc0 := 50) (pc' := 68) rfl (hb hby d7_50) rfl (teq hc81).1 (by decide) (by decide) k)
            show Gl _ _ _ _ (s₁.setTop (mkF m 68 #[.val (.ref a), .val (.int fr), .val (.int en), .val (.int (scan B en 8 fr)), .val (.int (scan B en 8 ((scan B en 8 fr) + (2 : Int32)))), .val (.int (1 : Int32)), .unset] []))
            refine Gl.go ?_ (fun t k => XS.iconst X0.here hx rfl (hb hby d7_68) k)
            show Gl _ _ _ _ (s₁.setTop (mkF m 69 #[.val (.ref a), .val (.int fr), .val (.int en), .val (.int (scan B en 8 fr)), .val (.int (scan B en 8 ((scan B en 8 fr) + (2 : Int32)))), .val (.int (1 : Int32)), .unset] [(.int (0 : Int32))]))
            refine Gl.go ?_ (fun t k => XS.istore X0.here hx rfl (hb hby d7_69) rfl (l' := #[.val (.ref a), .val (.int fr), .val (.int en), .val (.int (scan B en 8 fr)), .val (.int (scan B en 8 ((scan B en 8 fr) + (2 : Int32)))), .val (.int (0 : Int32)), .unset]) rfl k)
            show Gl _ _ _ _ (s₁.setTop (mkF m 71 #[.val (.ref a), .val (.int fr), .val (.int en), .val (.int (scan B en 8 fr)), .val (.int (scan B en 8 ((scan B en 8 fr) + (2 : Int32)))), .val (.int (0 : Int32)), .unset] []))
            refine Gl.go ?_ (fun t k => XS.iload X0.here hx rfl (hb hby d7_71) rfl k)
            show Gl _ _ _ _ (s₁.setTop (mkF m 73 #[.val (.ref a), .val (.int fr), .val (.int en), .val (.int (scan B en 8 fr)), .val (.int (scan B en 8 ((scan B en 8 fr) + (2 : Int32)))), .val (.int (0 : Int32)), .unset] [(.int (scan B en 8 ((scan B en 8 fr) + (2 : Int32))))]))
            refine Gl.go ?_ (fun t k => XS.iloadN X0.here hx rfl (hb hby d7_73) rfl k)
            show Gl _ _ _ _ (s₁.setTop (mkF m 74 #[.val (.ref a), .val (.int fr), .val (.int en), .val (.int (scan B en 8 fr)), .val (.int (scan B en 8 ((scan B en 8 fr) + (2 : Int32)))), .val (.int (0 : Int32)), .unset] [(.int en), (.int (scan B en 8 ((scan B en 8 fr) + (2 : Int32))))]))
            refine Gl.go ?_ (fun t k => XS.icmpNo X0.here hx rfl (hb hby d7_74) rfl (tlt (own_j2 (own_w (c := 8) hb78 (by decide)) hs79 hc80)).2.1 k)
            show Gl _ _ _ _ (s₁.setTop (mkF m 77 #[.val (.ref a), .val (.int fr), .val (.int en), .val (.int (scan B en 8 fr)), .val (.int (scan B en 8 ((scan B en 8 fr) + (2 : Int32)))), .val (.int (0 : Int32)), .unset] []))
            refine Gl.go ?_ (fun t k => XS.iload X0.here hx rfl (hb hby d7_77) rfl k)
            show Gl _ _ _ _ (s₁.setTop (mkF m 79 #[.val (.ref a), .val (.int fr), .val (.int en), .val (.int (scan B en 8 fr)), .val (.int (scan B en 8 ((scan B en 8 fr) + (2 : Int32)))), .val (.int (0 : Int32)), .unset] [(.int (scan B en 8 ((scan B en 8 fr) + (2 : Int32))))]))
            refine Gl.go ?_ (fun t k => XS.istoreN X0.here hx rfl (hb hby d7_79) rfl (l' := #[.val (.ref a), .val (.int fr), .val (.int en), .val (.int (scan B en 8 ((scan B en 8 fr) + (2 : Int32)))), .val (.int (scan B en 8 ((scan B en 8 fr) + (2 : Int32)))), .val (.int (0 : Int32)), .unset]) rfl k)
            show Gl _ _ _ _ (s₁.setTop (mkF m 80 #[.val (.ref a), .val (.int fr), .val (.int en), .val (.int (scan B en 8 ((scan B en 8 fr) + (2 : Int32)))), .val (.int (scan B en 8 ((scan B en 8 fr) + (2 : Int32)))), .val (.int (0 : Int32)), .unset] []))
            refine Gl.go ?_ (fun t k => XS.iinc X0.here hx rfl (hb hby d7_80) rfl (l' := #[.val (.ref a), .val (.int fr), .val (.int en), .val (.int (scan B en 8 ((scan B en 8 fr) + (2 : Int32)))), .val (.int ((scan B en 8 ((scan B en 8 fr) + (2 : Int32))) + (2 : Int32))), .val (.int (0 : Int32)), .unset]) rfl k)
            show Gl _ _ _ _ (s₁.setTop (mkF m 83 #[.val (.ref a), .val (.int fr), .val (.int en), .val (.int (scan B en 8 ((scan B en 8 fr) + (2 : Int32)))), .val (.int ((scan B en 8 ((scan B en 8 fr) + (2 : Int32))) + (2 : Int32))), .val (.int (0 : Int32)), .unset] []))
            have hu82 := own_up2 (c := 8) hb78 hs79 (by decide) (by decide)
            have hb83 : 0 ≤ (((scan B en 8 ((scan B en 8 fr) + (2 : Int32))) + (2 : Int32))).toInt ∧ (((scan B en 8 ((scan B en 8 fr) + (2 : Int32))) + (2 : Int32))).toInt ≤ 10 := own_w3 hu82
            refine Gl.go ?_ (fun t k => XS.goto X0.here hx rfl (pc0 := 83) (pc' := 8) rfl (hb hby d7_83) (by decide) (by decide) k)
            show Gl _ _ _ _ (s₁.setTop (mkF m 8 #[.val (.ref a), .val (.int fr), .val (.int en), .val (.int (scan B en 8 ((scan B en 8 fr) + (2 : Int32)))), .val (.int ((scan B en 8 ((scan B en 8 fr) + (2 : Int32))) + (2 : Int32))), .val (.int (0 : Int32)), .unset] []))
            refine Gl.go ?_ (fun t k => XS.iload X0.here hx rfl (hb hby d7_8) rfl k)
            show Gl _ _ _ _ (s₁.setTop (mkF m 10 #[.val (.ref a), .val (.int fr), .val (.int en), .val (.int (scan B en 8 ((scan B en 8 fr) + (2 : Int32)))), .val (.int ((scan B en 8 ((scan B en 8 fr) + (2 : Int32))) + (2 : Int32))), .val (.int (0 : Int32)), .unset] [(.int (0 : Int32))]))
            refine Gl.go ?_ (fun t k => XS.ifYes X0.here hx rfl (pc0 := 10) (pc' := 86) rfl (hb hby d7_10) rfl ((if0 _ _).trans (teq (by decide : (0 : Int32) = (0 : Int32))).1) (by decide) (by decide) k)
            show Gl _ _ _ _ (s₁.setTop (mkF m 86 #[.val (.ref a), .val (.int fr), .val (.int en), .val (.int (scan B en 8 ((scan B en 8 fr) + (2 : Int32)))), .val (.int ((scan B en 8 ((scan B en 8 fr) + (2 : Int32))) + (2 : Int32))), .val (.int (0 : Int32)), .unset] []))
            refine Gl.go ?_ (fun t k => XS.iloadN X0.here hx rfl (hb hby d7_86) rfl k)
            show Gl _ _ _ _ (s₁.setTop (mkF m 87 #[.val (.ref a), .val (.int fr), .val (.int en), .val (.int (scan B en 8 ((scan B en 8 fr) + (2 : Int32)))), .val (.int ((scan B en 8 ((scan B en 8 fr) + (2 : Int32))) + (2 : Int32))), .val (.int (0 : Int32)), .unset] [(.int (scan B en 8 ((scan B en 8 fr) + (2 : Int32))))]))
            refine Gl.go ?_ (fun t k => XS.istore X0.here hx rfl (hb hby d7_87) rfl (l' := #[.val (.ref a), .val (.int fr), .val (.int en), .val (.int (scan B en 8 ((scan B en 8 fr) + (2 : Int32)))), .val (.int ((scan B en 8 ((scan B en 8 fr) + (2 : Int32))) + (2 : Int32))), .val (.int (0 : Int32)), .val (.int (scan B en 8 ((scan B en 8 fr) + (2 : Int32))))]) rfl k)
            show Gl _ _ _ _ (s₁.setTop (mkF m 89 #[.val (.ref a), .val (.int fr), .val (.int en), .val (.int (scan B en 8 ((scan B en 8 fr) + (2 : Int32)))), .val (.int ((scan B en 8 ((scan B en 8 fr) + (2 : Int32))) + (2 : Int32))), .val (.int (0 : Int32)), .val (.int (scan B en 8 ((scan B en 8 fr) + (2 : Int32))))] []))
            refine Gl.go ?_ (fun t k => XS.iloadN X0.here hx rfl (hb hby d7_89) rfl k)
            show Gl _ _ _ _ (s₁.setTop (mkF m 90 #[.val (.ref a), .val (.int fr), .val (.int en), .val (.int (scan B en 8 ((scan B en 8 fr) + (2 : Int32)))), .val (.int ((scan B en 8 ((scan B en 8 fr) + (2 : Int32))) + (2 : Int32))), .val (.int (0 : Int32)), .val (.int (scan B en 8 ((scan B en 8 fr) + (2 : Int32))))] [(.int (scan B en 8 ((scan B en 8 fr) + (2 : Int32))))]))
            refine Gl.go ?_ (fun t k => XS.ifYes X0.here hx rfl (pc0 := 90) (pc' := 119) rfl (hb hby d7_90) rfl ((if0 _ _).trans (flt (iv_nlt' (k := 0) rfl (Int.le_trans hb78.1 hs79.1))).2.1) (by decide) (by decide) k)
            show Gl _ _ _ _ (s₁.setTop (mkF m 119 #[.val (.ref a), .val (.int fr), .val (.int en), .val (.int (scan B en 8 ((scan B en 8 fr) + (2 : Int32)))), .val (.int ((scan B en 8 ((scan B en 8 fr) + (2 : Int32))) + (2 : Int32))), .val (.int (0 : Int32)), .val (.int (scan B en 8 ((scan B en 8 fr) + (2 : Int32))))] []))
            refine Gl.go ?_ (fun t k => XS.iload X0.here hx rfl (hb hby d7_119) rfl k)
            show Gl _ _ _ _ (s₁.setTop (mkF m 121 #[.val (.ref a), .val (.int fr), .val (.int en), .val (.int (scan B en 8 ((scan B en 8 fr) + (2 : Int32)))), .val (.int ((scan B en 8 ((scan B en 8 fr) + (2 : Int32))) + (2 : Int32))), .val (.int (0 : Int32)), .val (.int (scan B en 8 ((scan B en 8 fr) + (2 : Int32))))] [(.int (scan B en 8 ((scan B en 8 fr) + (2 : Int32))))]))
            obtain ⟨fs, hr, hrun, hended, hW, hsame⟩ := X0.leave (v := some (.int (scan B en 8 ((scan B en 8 fr) + (2 : Int32))))) (fun h => by rw [Bd.returns] at h; cases h) (BodyLoose.notSynchronized Bd)
            exact Gl.mk ⟨_, _, retI X0 hx Bd.returns (hb hby d7_121) hr, hrun, hended, _, _, rfl, ⟨congrArg (fun z => some (Value.int z)) ((if_pos hc70).trans ((if_neg hc71).trans ((if_neg hc74).trans ((if_pos hc80).trans ((if_pos hc81).trans (rfl)))))).symm, rfl, e0⟩, ⟨_, rfl⟩, hW, hsame.mono (by decide) (by decide)⟩
          · refine Gl.go ?_ (fun t k => XS.icmpNo X0.here hx rfl (hb hby d7_50) rfl (feq hc81).1 k)
            show Gl _ _ _ _ (s₁.setTop (mkF m 53 #[.val (.ref a), .val (.int fr), .val (.int en), .val (.int (scan B en 8 fr)), .val (.int (scan B en 8 ((scan B en 8 fr) + (2 : Int32)))), .val (.int (1 : Int32)), .unset] []))
            refine Gl.go ?_ (fun t k => XS.aloadN X0.here hx rfl (hb hby d7_53) rfl rfl k)
            show Gl _ _ _ _ (s₁.setTop (mkF m 54 #[.val (.ref a), .val (.int fr), .val (.int en), .val (.int (scan B en 8 fr)), .val (.int (scan B en 8 ((scan B en 8 fr) + (2 : Int32)))), .val (.int (1 : Int32)), .unset] [(.ref a)]))
            refine Gl.go ?_ (fun t k => XS.iload X0.here hx rfl (hb hby d7_54) rfl k)
            show Gl _ _ _ _ (s₁.setTop (mkF m 56 #[.val (.ref a), .val (.int fr), .val (.int en), .val (.int (scan B en 8 fr)), .val (.int (scan B en 8 ((scan B en 8 fr) + (2 : Int32)))), .val (.int (1 : Int32)), .unset] [(.int (scan B en 8 ((scan B en 8 fr) + (2 : Int32)))), (.ref a)]))
            refine Gl.go ?_ (fun t k => XS.iconst X0.here hx rfl (hb hby d7_56) k)
            show Gl _ _ _ _ (s₁.setTop (mkF m 57 #[.val (.ref a), .val (.int fr), .val (.int en), .val (.int (scan B en 8 fr)), .val (.int (scan B en 8 ((scan B en 8 fr) + (2 : Int32)))), .val (.int (1 : Int32)), .unset] [(.int (1 : Int32)), (.int (scan B en 8 ((scan B en 8 fr) + (2 : Int32)))), (.ref a)]))
            refine Gl.go ?_ (fun t k => XS.iadd X0.here hx rfl (hb hby d7_57) rfl k)
            show Gl _ _ _ _ (s₁.setTop (mkF m 58 #[.val (.ref a), .val (.int fr), .val (.int en), .val (.int (scan B en 8 fr)), .val (.int (scan B en 8 ((scan B en 8 fr) + (2 : Int32)))), .val (.int (1 : Int32)), .unset] [(.int ((scan B en 8 ((scan B en 8 fr) + (2 : Int32))) + (1 : Int32))), (.ref a)]))
            refine Gl.go ?_ (BA.rdB hB X0 hx hZ e0 (own_in (own_j1 (own_w (c := 8) hb78 (by decide)) hs79) hE hc80).1 (own_in (own_j1 (own_w (c := 8) hb78 (by decide)) hs79) hE hc80).2 (g := (mkF m 58 #[.val (.ref a), .val (.int fr), .val (.int en), .val (.int (scan B en 8 fr)), .val (.int (scan B en 8 ((scan B en 8 fr) + (2 : Int32)))), .val (.int (1 : Int32)), .unset] [(.int ((scan B en 8 ((scan B en 8 fr) + (2 : Int32))) + (1 : Int32))), (.ref a)])) rfl rfl (hb hby d7_58))
            show Gl _ _ _ _ (s₁.setTop (mkF m 59 #[.val (.ref a), .val (.int fr), .val (.int en), .val (.int (scan B en 8 fr)), .val (.int (scan B en 8 ((scan B en 8 fr) + (2 : Int32)))), .val (.int (1 : Int32)), .unset] [(.int (B ((scan B en 8 ((scan B en 8 fr) + (2 : Int32))) + (1 : Int32))))]))
            refine Gl.go ?_ (fun t k => XS.bipush X0.here hx rfl (hb hby d7_59) k)
            show Gl _ _ _ _ (s₁.setTop (mkF m 61 #[.val (.ref a), .val (.int fr), .val (.int en), .val (.int (scan B en 8 fr)), .val (.int (scan B en 8 ((scan B en 8 fr) + (2 : Int32)))), .val (.int (1 : Int32)), .unset] [(.int (63 : Int32)), (.int (B ((scan B en 8 ((scan B en 8 fr) + (2 : Int32))) + (1 : Int32))))]))
            by_cases hc84 : (B ((scan B en 8 ((scan B en 8 fr) + (2 : Int32))) + (1 : Int32))) = (63 : Int32)
            · refine Gl.go ?_ (fun t k => XS.icmpYes X0.here hx rfl (pc0 := 61) (pc' := 68) rfl (hb hby d7_61) rfl (teq hc84).1 (by decide) (by decide) k)
              show Gl _ _ _ _ (s₁.setTop (mkF m 68 #[.val (.ref a), .val (.int fr), .val (.int en), .val (.int (scan B en 8 fr)), .val (.int (scan B en 8 ((scan B en 8 fr) + (2 : Int32)))), .val (.int (1 : Int32)), .unset] []))
              refine Gl.go ?_ (fun t k => XS.iconst X0.here hx rfl (hb hby d7_68) k)
              show Gl _ _ _ _ (s₁.setTop (mkF m 69 #[.val (.ref a), .val (.int fr), .val (.int en), .val (.int (scan B en 8 fr)), .val (.int (scan B en 8 ((scan B en 8 fr) + (2 : Int32)))), .val (.int (1 : Int32)), .unset] [(.int (0 : Int32))]))
              refine Gl.go ?_ (fun t k => XS.istore X0.here hx rfl (hb hby d7_69) rfl (l' := #[.val (.ref a), .val (.int fr), .val (.int en), .val (.int (scan B en 8 fr)), .val (.int (scan B en 8 ((scan B en 8 fr) + (2 : Int32)))), .val (.int (0 : Int32)), .unset]) rfl k)
              show Gl _ _ _ _ (s₁.setTop (mkF m 71 #[.val (.ref a), .val (.int fr), .val (.int en), .val (.int (scan B en 8 fr)), .val (.int (scan B en 8 ((scan B en 8 fr) + (2 : Int32)))), .val (.int (0 : Int32)), .unset] []))
              refine Gl.go ?_ (fun t k => XS.iload X0.here hx rfl (hb hby d7_71) rfl k)
              show Gl _ _ _ _ (s₁.setTop (mkF m 73 #[.val (.ref a), .val (.int fr), .val (.int en), .val (.int (scan B en 8 fr)), .val (.int (scan B en 8 ((scan B en 8 fr) + (2 : Int32)))), .val (.int (0 : Int32)), .unset] [(.int (scan B en 8 ((scan B en 8 fr) + (2 : Int32))))]))
              refine Gl.go ?_ (fun t k => XS.iloadN X0.here hx rfl (hb hby d7_73) rfl k)
              show Gl _ _ _ _ (s₁.setTop (mkF m 74 #[.val (.ref a), .val (.int fr), .val (.int en), .val (.int (scan B en 8 fr)), .val (.int (scan B en 8 ((scan B en 8 fr) + (2 : Int32)))), .val (.int (0 : Int32)), .unset] [(.int en), (.int (scan B en 8 ((scan B en 8 fr) + (2 : Int32))))]))
              refine Gl.go ?_ (fun t k => XS.icmpNo X0.here hx rfl (hb hby d7_74) rfl (tlt (own_j2 (own_w (c := 8) hb78 (by decide)) hs79 hc80)).2.1 k)
              show Gl _ _ _ _ (s₁.setTop (mkF m 77 #[.val (.ref a), .val (.int fr), .val (.int en), .val (.int (scan B en 8 fr)), .val (.int (scan B en 8 ((scan B en 8 fr) + (2 : Int32)))), .val (.int (0 : Int32)), .unset] []))
              refine Gl.go ?_ (fun t k => XS.iload X0.here hx rfl (hb hby d7_77) rfl k)
              show Gl _ _ _ _ (s₁.setTop (mkF m 79 #[.val (.ref a), .val (.int fr), .val (.int en), .val (.int (scan B en 8 fr)), .val (.int (scan B en 8 ((scan B en 8 fr) + (2 : Int32)))), .val (.int (0 : Int32)), .unset] [(.int (scan B en 8 ((scan B en 8 fr) + (2 : Int32))))]))
              refine Gl.go ?_ (fun t k => XS.istoreN X0.here hx rfl (hb hby d7_79) rfl (l' := #[.val (.ref a), .val (.int fr), .val (.int en), .val (.int (scan B en 8 ((scan B en 8 fr) + (2 : Int32)))), .val (.int (scan B en 8 ((scan B en 8 fr) + (2 : Int32)))), .val (.int (0 : Int32)), .unset]) rfl k)
              show Gl _ _ _ _ (s₁.setTop (mkF m 80 #[.val (.ref a), .val (.int fr), .val (.int en), .val (.int (scan B en 8 ((scan B en 8 fr) + (2 : Int32)))), .val (.int (scan B en 8 ((scan B en 8 fr) + (2 : Int32)))), .val (.int (0 : Int32)), .unset] []))
              refine Gl.go ?_ (fun t k => XS.iinc X0.here hx rfl (hb hby d7_80) rfl (l' := #[.val (.ref a), .val (.int fr), .val (.int en), .val (.int (scan B en 8 ((scan B en 8 fr) + (2 : Int32)))), .val (.int ((scan B en 8 ((scan B en 8 fr) + (2 : Int32))) + (2 : Int32))), .val (.int (0 : Int32)), .unset]) rfl k)
              show Gl _ _ _ _ (s₁.setTop (mkF m 83 #[.val (.ref a), .val (.int fr), .val (.int en), .val (.int (scan B en 8 ((scan B en 8 fr) + (2 : Int32)))), .val (.int ((scan B en 8 ((scan B en 8 fr) + (2 : Int32))) + (2 : Int32))), .val (.int (0 : Int32)), .unset] []))
              have hu85 := own_up2 (c := 8) hb78 hs79 (by decide) (by decide)
              have hb86 : 0 ≤ (((scan B en 8 ((scan B en 8 fr) + (2 : Int32))) + (2 : Int32))).toInt ∧ (((scan B en 8 ((scan B en 8 fr) + (2 : Int32))) + (2 : Int32))).toInt ≤ 10 := own_w3 hu85
              refine Gl.go ?_ (fun t k => XS.goto X0.here hx rfl (pc0 := 83) (pc' := 8) rfl (hb hby d7_83) (by decide) (by decide) k)
              show Gl _ _ _ _ (s₁.setTop (mkF m 8 #[.val (.ref a), .val (.int fr), .val (.int en), .val (.int (scan B en 8 ((scan B en 8 fr) + (2 : Int32)))), .val (.int ((scan B en 8 ((scan B en 8 fr) + (2 : Int32))) + (2 : Int32))), .val (.int (0 : Int32)), .unset] []))
              refine Gl.go ?_ (fun t k => XS.iload X0.here hx rfl (hb hby d7_8) rfl k)
              show Gl _ _ _ _ (s₁.setTop (mkF m 10 #[.val (.ref a), .val (.int fr), .val (.int en), .val (.int (scan B en 8 ((scan B en 8 fr) + (2 : Int32)))), .val (.int ((scan B en 8 ((scan B en 8 fr) + (2 : Int32))) + (2 : Int32))), .val (.int (0 : Int32)), .unset] [(.int (0 : Int32))]))
              refine Gl.go ?_ (fun t k => XS.ifYes X0.here hx rfl (pc0 := 10) (pc' := 86) rfl (hb hby d7_10) rfl ((if0 _ _).trans (teq (by decide : (0 : Int32) = (0 : Int32))).1) (by decide) (by decide) k)
              show Gl _ _ _ _ (s₁.setTop (mkF m 86 #[.val (.ref a), .val (.int fr), .val (.int en), .val (.int (scan B en 8 ((scan B en 8 fr) + (2 : Int32)))), .val (.int ((scan B en 8 ((scan B en 8 fr) + (2 : Int32))) + (2 : Int32))), .val (.int (0 : Int32)), .unset] []))
              refine Gl.go ?_ (fun t k => XS.iloadN X0.here hx rfl (hb hby d7_86) rfl k)
              show Gl _ _ _ _ (s₁.setTop (mkF m 87 #[.val (.ref a), .val (.int fr), .val (.int en), .val (.int (scan B en 8 ((scan B en 8 fr) + (2 : Int32)))), .val (.int ((scan B en 8 ((scan B en 8 fr) + (2 : Int32))) + (2 : Int32))), .val (.int (0 : Int32)), .unset] [(.int (scan B en 8 ((scan B en 8 fr) + (2 : Int32))))]))
              refine Gl.go ?_ (fun t k => XS.istore X0.here hx rfl (hb hby d7_87) rfl (l' := #[.val (.ref a), .val (.int fr), .val (.int en), .val (.int (scan B en 8 ((scan B en 8 fr) + (2 : Int32)))), .val (.int ((scan B en 8 ((scan B en 8 fr) + (2 : Int32))) + (2 : Int32))), .val (.int (0 : Int32)), .val (.int (scan B en 8 ((scan B en 8 fr) + (2 : Int32))))]) rfl k)
              show Gl _ _ _ _ (s₁.setTop (mkF m 89 #[.val (.ref a), .val (.int fr), .val (.int en), .val (.int (scan B en 8 ((scan B en 8 fr) + (2 : Int32)))), .val (.int ((scan B en 8 ((scan B en 8 fr) + (2 : Int32))) + (2 : Int32))), .val (.int (0 : Int32)), .val (.int (scan B en 8 ((scan B en 8 fr) + (2 : Int32))))] []))
              refine Gl.go ?_ (fun t k => XS.iloadN X0.here hx rfl (hb hby d7_89) rfl k)
              show Gl _ _ _ _ (s₁.setTop (mkF m 90 #[.val (.ref a), .val (.int fr), .val (.int en), .val (.int (scan B en 8 ((scan B en 8 fr) + (2 : Int32)))), .val (.int ((scan B en 8 ((scan B en 8 fr) + (2 : Int32))) + (2 : Int32))), .val (.int (0 : Int32)), .val (.int (scan B en 8 ((scan B en 8 fr) + (2 : Int32))))] [(.int (scan B en 8 ((scan B en 8 fr) + (2 : Int32))))]))
              refine Gl.go ?_ (fun t k => XS.ifYes X0.here hx rfl (pc0 := 90) (pc' := 119) rfl (hb hby d7_90) rfl ((if0 _ _).trans (flt (iv_nlt' (k := 0) rfl (Int.le_trans hb78.1 hs79.1))).2.1) (by decide) (by decide) k)
              show Gl _ _ _ _ (s₁.setTop (mkF m 119 #[.val (.ref a), .val (.int fr), .val (.int en), .val (.int (scan B en 8 ((scan B en 8 fr) + (2 : Int32)))), .val (.int ((scan B en 8 ((scan B en 8 fr) + (2 : Int32))) + (2 : Int32))), .val (.int (0 : Int32)), .val (.int (scan B en 8 ((scan B en 8 fr) + (2 : Int32))))] []))
              refine Gl.go ?_ (fun t k => XS.iload X0.here hx rfl (hb hby d7_119) rfl k)
              show Gl _ _ _ _ (s₁.setTop (mkF m 121 #[.val (.ref a), .val (.int fr), .val (.int en), .val (.int (scan B en 8 ((scan B en 8 fr) + (2 : Int32)))), .val (.int ((scan B en 8 ((scan B en 8 fr) + (2 : Int32))) + (2 : Int32))), .val (.int (0 : Int32)), .val (.int (scan B en 8 ((scan B en 8 fr) + (2 : Int32))))] [(.int (scan B en 8 ((scan B en 8 fr) + (2 : Int32))))]))
              obtain ⟨fs, hr, hrun, hended, hW, hsame⟩ := X0.leave (v := some (.int (scan B en 8 ((scan B en 8 fr) + (2 : Int32))))) (fun h => by rw [Bd.returns] at h; cases h) (BodyLoose.notSynchronized Bd)
              exact Gl.mk ⟨_, _, retI X0 hx Bd.returns (hb hby d7_121) hr, hrun, hended, _, _, rfl, ⟨congrArg (fun z => some (Value.int z)) ((if_pos hc70).trans ((if_neg hc71).trans ((if_neg hc74).trans ((if_pos hc80).trans ((if_neg hc81).trans ((if_pos hc84).trans (rfl))))))).symm, rfl, e0⟩, ⟨_, rfl⟩, hW, hsame.mono (by decide) (by decide)⟩
            · refine Gl.go ?_ (fun t k => XS.icmpNo X0.here hx rfl (hb hby d7_61) rfl (feq hc84).1 k)
              show Gl _ _ _ _ (s₁.setTop (mkF m 64 #[.val (.ref a), .val (.int fr), .val (.int en), .val (.int (scan B en 8 fr)), .val (.int (scan B en 8 ((scan B en 8 fr) + (2 : Int32)))), .val (.int (1 : Int32)), .unset] []))
              refine Gl.go ?_ (fun t k => XS.iconst X0.here hx rfl (hb hby d7_64) k)
              show Gl _ _ _ _ (s₁.setTop (mkF m 65 #[.val (.ref a), .val (.int fr), .val (.int en), .val (.int (scan B en 8 fr)), .val (.int (scan B en 8 ((scan B en 8 fr) + (2 : Int32)))), .val (.int (1 : Int32)), .unset] [(.int (1 : Int32))]))
              refine Gl.go ?_ (fun t k => XS.goto X0.here hx rfl (pc0 := 65) (pc' := 69) rfl (hb hby d7_65) (by decide) (by decide) k)
              show Gl _ _ _ _ (s₁.setTop (mkF m 69 #[.val (.ref a), .val (.int fr), .val (.int en), .val (.int (scan B en 8 fr)), .val (.int (scan B en 8 ((scan B en 8 fr) + (2 : Int32)))), .val (.int (1 : Int32)), .unset] [(.int (1 : Int32))]))
              refine Gl.go ?_ (fun t k => XS.istore X0.here hx rfl (hb hby d7_69) rfl (l' := #[.val (.ref a), .val (.int fr), .val (.int en), .val (.int (scan B en 8 fr)), .val (.int (scan B en 8 ((scan B en 8 fr) + (2 : Int32)))), .val (.int (1 : Int32)), .unset]) rfl k)
              show Gl _ _ _ _ (s₁.setTop (mkF m 71 #[.val (.ref a), .val (.int fr), .val (.int en), .val (.int (scan B en 8 fr)), .val (.int (scan B en 8 ((scan B en 8 fr) + (2 : Int32)))), .val (.int (1 : Int32)), .unset] []))
              refine Gl.go ?_ (fun t k => XS.iload X0.here hx rfl (hb hby d7_71) rfl k)
              show Gl _ _ _ _ (s₁.setTop (mkF m 73 #[.val (.ref a), .val (.int fr), .val (.int en), .val (.int (scan B en 8 fr)), .val (.int (scan B en 8 ((scan B en 8 fr) + (2 : Int32)))), .val (.int (1 : Int32)), .unset] [(.int (scan B en 8 ((scan B en 8 fr) + (2 : Int32))))]))
              refine Gl.go ?_ (fun t k => XS.iloadN X0.here hx rfl (hb hby d7_73) rfl k)
              show Gl _ _ _ _ (s₁.setTop (mkF m 74 #[.val (.ref a), .val (.int fr), .val (.int en), .val (.int (scan B en 8 fr)), .val (.int (scan B en 8 ((scan B en 8 fr) + (2 : Int32)))), .val (.int (1 : Int32)), .unset] [(.int en), (.int (scan B en 8 ((scan B en 8 fr) + (2 : Int32))))]))
              refine Gl.go ?_ (fun t k => XS.icmpNo X0.here hx rfl (hb hby d7_74) rfl (tlt (own_j2 (own_w (c := 8) hb78 (by decide)) hs79 hc80)).2.1 k)
              show Gl _ _ _ _ (s₁.setTop (mkF m 77 #[.val (.ref a), .val (.int fr), .val (.int en), .val (.int (scan B en 8 fr)), .val (.int (scan B en 8 ((scan B en 8 fr) + (2 : Int32)))), .val (.int (1 : Int32)), .unset] []))
              refine Gl.go ?_ (fun t k => XS.iload X0.here hx rfl (hb hby d7_77) rfl k)
              show Gl _ _ _ _ (s₁.setTop (mkF m 79 #[.val (.ref a), .val (.int fr), .val (.int en), .val (.int (scan B en 8 fr)), .val (.int (scan B en 8 ((scan B en 8 fr) + (2 : Int32)))), .val (.int (1 : Int32)), .unset] [(.int (scan B en 8 ((scan B en 8 fr) + (2 : Int32))))]))
              refine Gl.go ?_ (fun t k => XS.istoreN X0.here hx rfl (hb hby d7_79) rfl (l' := #[.val (.ref a), .val (.int fr), .val (.int en), .val (.int (scan B en 8 ((scan B en 8 fr) + (2 : Int32)))), .val (.int (scan B en 8 ((scan B en 8 fr) + (2 : Int32)))), .val (.int (1 : Int32)), .unset]) rfl k)
              show Gl _ _ _ _ (s₁.setTop (mkF m 80 #[.val (.ref a), .val (.int fr), .val (.int en), .val (.int (scan B en 8 ((scan B en 8 fr) + (2 : Int32)))), .val (.int (scan B en 8 ((scan B en 8 fr) + (2 : Int32)))), .val (.int (1 : Int32)), .unset] []))
              refine Gl.go ?_ (fun t k => XS.iinc X0.here hx rfl (hb hby d7_80) rfl (l' := #[.val (.ref a), .val (.int fr), .val (.int en), .val (.int (scan B en 8 ((scan B en 8 fr) + (2 : Int32)))), .val (.int ((scan B en 8 ((scan B en 8 fr) + (2 : Int32))) + (2 : Int32))), .val (.int (1 : Int32)), .unset]) rfl k)
              show Gl _ _ _ _ (s₁.setTop (mkF m 83 #[.val (.ref a), .val (.int fr), .val (.int en), .val (.int (scan B en 8 ((scan B en 8 fr) + (2 : Int32)))), .val (.int ((scan B en 8 ((scan B en 8 fr) + (2 : Int32))) + (2 : Int32))), .val (.int (1 : Int32)), .unset] []))
              have hu87 := own_up2 (c := 8) hb78 hs79 (by decide) (by decide)
              have hb88 : 0 ≤ (((scan B en 8 ((scan B en 8 fr) + (2 : Int32))) + (2 : Int32))).toInt ∧ (((scan B en 8 ((scan B en 8 fr) + (2 : Int32))) + (2 : Int32))).toInt ≤ 10 := own_w3 hu87
              refine Gl.go ?_ (fun t k => XS.goto X0.here hx rfl (pc0 := 83) (pc' := 8) rfl (hb hby d7_83) (by decide) (by decide) k)
              show Gl _ _ _ _ (s₁.setTop (mkF m 8 #[.val (.ref a), .val (.int fr), .val (.int en), .val (.int (scan B en 8 ((scan B en 8 fr) + (2 : Int32)))), .val (.int ((scan B en 8 ((scan B en 8 fr) + (2 : Int32))) + (2 : Int32))), .val (.int (1 : Int32)), .unset] []))
              refine Gl.go ?_ (fun t k => XS.iload X0.here hx rfl (hb hby d7_8) rfl k)
              show Gl _ _ _ _ (s₁.setTop (mkF m 10 #[.val (.ref a), .val (.int fr), .val (.int en), .val (.int (scan B en 8 ((scan B en 8 fr) + (2 : Int32)))), .val (.int ((scan B en 8 ((scan B en 8 fr) + (2 : Int32))) + (2 : Int32))), .val (.int (1 : Int32)), .unset] [(.int (1 : Int32))]))
              refine Gl.go ?_ (fun t k => XS.ifNo X0.here hx rfl (hb hby d7_10) rfl ((if0 _ _).trans (feq (by decide : ¬ ((1 : Int32) = (0 : Int32)))).1) k)
              refine loop_scan X0 hx hZ hby e0 a fr en (scan B en 8 ((scan B en 8 fr) + (2 : Int32))) (1 : Int32) B hB hE 8 ((scan B en 8 ((scan B en 8 fr) + (2 : Int32))) + (2 : Int32)) hb88.1 (by have := hb88.1; omega) ?_
              have hs89 := own_scan_ge (B := B) hE 8 ((scan B en 8 ((scan B en 8 fr) + (2 : Int32))) + (2 : Int32)) (own_w (c := 10) hb88 (by decide)).1 (own_w (c := 10) hb88 (by decide)).2
              show Gl _ _ _ _ (s₁.setTop (mkF m 34 #[.val (.ref a), .val (.int fr), .val (.int en), .val (.int (scan B en 8 ((scan B en 8 fr) + (2 : Int32)))), .val (.int (scan B en 8 ((scan B en 8 ((scan B en 8 fr) + (2 : Int32))) + (2 : Int32)))), .val (.int (1 : Int32)), .unset] []))
              refine Gl.go ?_ (fun t k => XS.iload X0.here hx rfl (hb hby d7_34) rfl k)
              show Gl _ _ _ _ (s₁.setTop (mkF m 36 #[.val (.ref a), .val (.int fr), .val (.int en), .val (.int (scan B en 8 ((scan B en 8 fr) + (2 : Int32)))), .val (.int (scan B en 8 ((scan B en 8 ((scan B en 8 fr) + (2 : Int32))) + (2 : Int32)))), .val (.int (1 : Int32)), .unset] [(.int (scan B en 8 ((scan B en 8 ((scan B en 8 fr) + (2 : Int32))) + (2 : Int32))))]))
              refine Gl.go ?_ (fun t k => XS.iconst X0.here hx rfl (hb hby d7_36) k)
              show Gl _ _ _ _ (s₁.setTop (mkF m 37 #[.val (.ref a), .val (.int fr), .val (.int en), .val (.int (scan B en 8 ((scan B en 8 fr) + (2 : Int32)))), .val (.int (scan B en 8 ((scan B en 8 ((scan B en 8 fr) + (2 : Int32))) + (2 : Int32)))), .val (.int (1 : Int32)), .unset] [(.int (1 : Int32)), (.int (scan B en 8 ((scan B en 8 ((scan B en 8 fr) + (2 : Int32))) + (2 : Int32))))]))
              refine Gl.go ?_ (fun t k => XS.iadd X0.here hx rfl (hb hby d7_37) rfl k)
              show Gl _ _ _ _ (s₁.setTop (mkF m 38 #[.val (.ref a), .val (.int fr), .val (.int en), .val (.int (scan B en 8 ((scan B en 8 fr) + (2 : Int32)))), .val (.int (scan B en 8 ((scan B en 8 ((scan B en 8 fr) + (2 : Int32))) + (2 : Int32)))), .val (.int (1 : Int32)), .unset] [(.int ((scan B en 8 ((scan B en 8 ((scan B en 8 fr) + (2 : Int32))) + (2 : Int32))) + (1 : Int32)))]))
              refine Gl.go ?_ (fun t k => XS.iloadN X0.here hx rfl (hb hby d7_38) rfl k)
              show Gl _ _ _ _ (s₁.setTop (mkF m 39 #[.val (.ref a), .val (.int fr), .val (.int en), .val (.int (scan B en 8 ((scan B en 8 fr) + (2 : Int32)))), .val (.int (scan B en 8 ((scan B en 8 ((scan B en 8 fr) + (2 : Int32))) + (2 : Int32)))), .val (.int (1 : Int32)), .unset] [(.int en), (.int ((scan B en 8 ((scan B en 8 ((scan B en 8 fr) + (2 : Int32))) + (2 : Int32))) + (1 : Int32)))]))
              by_cases hc90 : ((scan B en 8 ((scan B en 8 ((scan B en 8 fr) + (2 : Int32))) + (2 : Int32))) + (1 : Int32)) < en
              · refine Gl.go ?_ (fun t k => XS.icmpNo X0.here hx rfl (hb hby d7_39) rfl (tlt hc90).2.1 k)
                show Gl _ _ _ _ (s₁.setTop (mkF m 42 #[.val (.ref a), .val (.int fr), .val (.int en), .val (.int (scan B en 8 ((scan B en 8 fr) + (2 : Int32)))), .val (.int (scan B en 8 ((scan B en 8 ((scan B en 8 fr) + (2 : Int32))) + (2 : Int32)))), .val (.int (1 : Int32)), .unset] []))
                refine Gl.go ?_ (fun t k => XS.aloadN X0.here hx rfl (hb hby d7_42) rfl rfl k)
                show Gl _ _ _ _ (s₁.setTop (mkF m 43 #[.val (.ref a), .val (.int fr), .val (.int en), .val (.int (scan B en 8 ((scan B en 8 fr) + (2 : Int32)))), .val (.int (scan B en 8 ((scan B en 8 ((scan B en 8 fr) + (2 : Int32))) + (2 : Int32)))), .val (.int (1 : Int32)), .unset] [(.ref a)]))
                refine Gl.go ?_ (fun t k => XS.iload X0.here hx rfl (hb hby d7_43) rfl k)
                show Gl _ _ _ _ (s₁.setTop (mkF m 45 #[.val (.ref a), .val (.int fr), .val (.int en), .val (.int (scan B en 8 ((scan B en 8 fr) + (2 : Int32)))), .val (.int (scan B en 8 ((scan B en 8 ((scan B en 8 fr) + (2 : Int32))) + (2 : Int32)))), .val (.int (1 : Int32)), .unset] [(.int (scan B en 8 ((scan B en 8 ((scan B en 8 fr) + (2 : Int32))) + (2 : Int32)))), (.ref a)]))
                refine Gl.go ?_ (fun t k => XS.iconst X0.here hx rfl (hb hby d7_45) k)
                show Gl _ _ _ _ (s₁.setTop (mkF m 46 #[.val (.ref a), .val (.int fr), .val (.int en), .val (.int (scan B en 8 ((scan B en 8 fr) + (2 : Int32)))), .val (.int (scan B en 8 ((scan B en 8 ((scan B en 8 fr) + (2 : Int32))) + (2 : Int32)))), .val (.int (1 : Int32)), .unset] [(.int (1 : Int32)), (.int (scan B en 8 ((scan B en 8 ((scan B en 8 fr) + (2 : Int32))) + (2 : Int32)))), (.ref a)]))
                refine Gl.go ?_ (fun t k => XS.iadd X0.here hx rfl (hb hby d7_46) rfl k)
                show Gl _ _ _ _ (s₁.setTop (mkF m 47 #[.val (.ref a), .val (.int fr), .val (.int en), .val (.int (scan B en 8 ((scan B en 8 fr) + (2 : Int32)))), .val (.int (scan B en 8 ((scan B en 8 ((scan B en 8 fr) + (2 : Int32))) + (2 : Int32)))), .val (.int (1 : Int32)), .unset] [(.int ((scan B en 8 ((scan B en 8 ((scan B en 8 fr) + (2 : Int32))) + (2 : Int32))) + (1 : Int32))), (.ref a)]))
                refine Gl.go ?_ (BA.rdB hB X0 hx hZ e0 (own_in (own_j1 (own_w (c := 10) hb88 (by decide)) hs89) hE hc90).1 (own_in (own_j1 (own_w (c := 10) hb88 (by decide)) hs89) hE hc90).2 (g := (mkF m 47 #[.val (.ref a), .val (.int fr), .val (.int en), .val (.int (scan B en 8 ((scan B en 8 fr) + (2 : Int32)))), .val (.int (scan B en 8 ((scan B en 8 ((scan B en 8 fr) + (2 : Int32))) + (2 : Int32)))), .val (.int (1 : Int32)), .unset] [(.int ((scan B en 8 ((scan B en 8 ((scan B en 8 fr) + (2 : Int32))) + (2 : Int32))) + (1 : Int32))), (.ref a)])) rfl rfl (hb hby d7_47))
                show Gl _ _ _ _ (s₁.setTop (mkF m 48 #[.val (.ref a), .val (.int fr), .val (.int en), .val (.int (scan B en 8 ((scan B en 8 fr) + (2 : Int32)))), .val (.int (scan B en 8 ((scan B en 8 ((scan B en 8 fr) + (2 : Int32))) + (2 : Int32)))), .val (.int (1 : Int32)), .unset] [(.int (B ((scan B en 8 ((scan B en 8 ((scan B en 8 fr) + (2 : Int32))) + (2 : Int32))) + (1 : Int32))))]))
                refine Gl.go ?_ (fun t k => XS.bipush X0.here hx rfl (hb hby d7_48) k)
                show Gl _ _ _ _ (s₁.setTop (mkF m 50 #[.val (.ref a), .val (.int fr), .val (.int en), .val (.int (scan B en 8 ((scan B en 8 fr) + (2 : Int32)))), .val (.int (scan B en 8 ((scan B en 8 ((scan B en 8 fr) + (2 : Int32))) + (2 : Int32)))), .val (.int (1 : Int32)), .unset] [(.int (33 : Int32)), (.int (B ((scan B en 8 ((scan B en 8 ((scan B en 8 fr) + (2 : Int32))) + (2 : Int32))) + (1 : Int32))))]))
                by_cases hc91 : (B ((scan B en 8 ((scan B en 8 ((scan B en 8 fr) + (2 : Int32))) + (2 : Int32))) + (1 : Int32))) = (33 : Int32)
                · refine Gl.go ?_ (fun t k => XS.icmpYes X0.here hx rfl (pc0 := 50) (pc' := 68) rfl (hb hby d7_50) rfl (teq hc91).1 (by decide) (by decide) k)
                  show Gl _ _ _ _ (s₁.setTop (mkF m 68 #[.val (.ref a), .val (.int fr), .val (.int en), .val (.int (scan B en 8 ((scan B en 8 fr) + (2 : Int32)))), .val (.int (scan B en 8 ((scan B en 8 ((scan B en 8 fr) + (2 : Int32))) + (2 : Int32)))), .val (.int (1 : Int32)), .unset] []))
                  refine Gl.go ?_ (fun t k => XS.iconst X0.here hx rfl (hb hby d7_68) k)
                  show Gl _ _ _ _ (s₁.setTop (mkF m 69 #[.val (.ref a), .val (.int fr), .val (.int en), .val (.int (scan B en 8 ((scan B en 8 fr) + (2 : Int32)))), .val (.int (scan B en 8 ((scan B en 8 ((scan B en 8 fr) + (2 : Int32))) + (2 : Int32)))), .val (.int (1 : Int32)), .unset] [(.int (0 : Int32))]))
                  refine Gl.go ?_ (fun t k => XS.istore X0.here hx rfl (hb hby d7_69) rfl (l' := #[.val (.ref a), .val (.int fr), .val (.int en), .val (.int (scan B en 8 ((scan B en 8 fr) + (2 : Int32)))), .val (.int (scan B en 8 ((scan B en 8 ((scan B en 8 fr) + (2 : Int32))) + (2 : Int32)))), .val (.int (0 : Int32)), .unset]) rfl k)
                  show Gl _ _ _ _ (s₁.setTop (mkF m 71 #[.val (.ref a), .val (.int fr), .val (.int en), .val (.int (scan B en 8 ((scan B en 8 fr) + (2 : Int32)))), .val (.int (scan B en 8 ((scan B en 8 ((scan B en 8 fr) + (2 : Int32))) + (2 : Int32)))), .val (.int (0 : Int32)), .unset] []))
                  refine Gl.go ?_ (fun t k => XS.iload X0.here hx rfl (hb hby d7_71) rfl k)
                  show Gl _ _ _ _ (s₁.setTop (mkF m 73 #[.val (.ref a), .val (.int fr), .val (.int en), .val (.int (scan B en 8 ((scan B en 8 fr) + (2 : Int32)))), .val (.int (scan B en 8 ((scan B en 8 ((scan B en 8 fr) + (2 : Int32))) + (2 : Int32)))), .val (.int (0 : Int32)), .unset] [(.int (scan B en 8 ((scan B en 8 ((scan B en 8 fr) + (2 : Int32))) + (2 : Int32))))]))
                  refine Gl.go ?_ (fun t k => XS.iloadN X0.here hx rfl (hb hby d7_73) rfl k)
                  show Gl _ _ _ _ (s₁.setTop (mkF m 74 #[.val (.ref a), .val (.int fr), .val (.int en), .val (.int (scan B en 8 ((scan B en 8 fr) + (2 : Int32)))), .val (.int (scan B en 8 ((scan B en 8 ((scan B en 8 fr) + (2 : Int32))) + (2 : Int32)))), .val (.int (0 : Int32)), .unset] [(.int en), (.int (scan B en 8 ((scan B en 8 ((scan B en 8 fr) + (2 : Int32))) + (2 : Int32))))]))
                  refine Gl.go ?_ (fun t k => XS.icmpNo X0.here hx rfl (hb hby d7_74) rfl (tlt (own_j2 (own_w (c := 10) hb88 (by decide)) hs89 hc90)).2.1 k)
                  show Gl _ _ _ _ (s₁.setTop (mkF m 77 #[.val (.ref a), .val (.int fr), .val (.int en), .val (.int (scan B en 8 ((scan B en 8 fr) + (2 : Int32)))), .val (.int (scan B en 8 ((scan B en 8 ((scan B en 8 fr) + (2 : Int32))) + (2 : Int32)))), .val (.int (0 : Int32)), .unset] []))
                  refine Gl.go ?_ (fun t k => XS.iload X0.here hx rfl (hb hby d7_77) rfl k)
                  show Gl _ _ _ _ (s₁.setTop (mkF m 79 #[.val (.ref a), .val (.int fr), .val (.int en), .val (.int (scan B en 8 ((scan B en 8 fr) + (2 : Int32)))), .val (.int (scan B en 8 ((scan B en 8 ((scan B en 8 fr) + (2 : Int32))) + (2 : Int32)))), .val (.int (0 : Int32)), .unset] [(.int (scan B en 8 ((scan B en 8 ((scan B en 8 fr) + (2 : Int32))) + (2 : Int32))))]))
                  refine Gl.go ?_ (fun t k => XS.istoreN X0.here hx rfl (hb hby d7_79) rfl (l' := #[.val (.ref a), .val (.int fr), .val (.int en), .val (.int (scan B en 8 ((scan B en 8 ((scan B en 8 fr) + (2 : Int32))) + (2 : Int32)))), .val (.int (scan B en 8 ((scan B en 8 ((scan B en 8 fr) + (2 : Int32))) + (2 : Int32)))), .val (.int (0 : Int32)), .unset]) rfl k)
                  show Gl _ _ _ _ (s₁.setTop (mkF m 80 #[.val (.ref a), .val (.int fr), .val (.int en), .val (.int (scan B en 8 ((scan B en 8 ((scan B en 8 fr) + (2 : Int32))) + (2 : Int32)))), .val (.int (scan B en 8 ((scan B en 8 ((scan B en 8 fr) + (2 : Int32))) + (2 : Int32)))), .val (.int (0 : Int32)), .unset] []))
                  refine Gl.go ?_ (fun t k => XS.iinc X0.here hx rfl (hb hby d7_80) rfl (l' := #[.val (.ref a), .val (.int fr), .val (.int en), .val (.int (scan B en 8 ((scan B en 8 ((scan B en 8 fr) + (2 : Int32))) + (2 : Int32)))), .val (.int ((scan B en 8 ((scan B en 8 ((scan B en 8 fr) + (2 : Int32))) + (2 : Int32))) + (2 : Int32))), .val (.int (0 : Int32)), .unset]) rfl k)
                  show Gl _ _ _ _ (s₁.setTop (mkF m 83 #[.val (.ref a), .val (.int fr), .val (.int en), .val (.int (scan B en 8 ((scan B en 8 ((scan B en 8 fr) + (2 : Int32))) + (2 : Int32)))), .val (.int ((scan B en 8 ((scan B en 8 ((scan B en 8 fr) + (2 : Int32))) + (2 : Int32))) + (2 : Int32))), .val (.int (0 : Int32)), .unset] []))
                  have hu92 := own_up2 (c := 10) hb88 hs89 (by decide) (by decide)
                  have hb93 : 0 ≤ (((scan B en 8 ((scan B en 8 ((scan B en 8 fr) + (2 : Int32))) + (2 : Int32))) + (2 : Int32))).toInt ∧ (((scan B en 8 ((scan B en 8 ((scan B en 8 fr) + (2 : Int32))) + (2 : Int32))) + (2 : Int32))).toInt ≤ 12 := own_w3 hu92
                  refine Gl.go ?_ (fun t k => XS.goto X0.here hx rfl (pc0 := 83) (pc' := 8) rfl (hb hby d7_83) (by decide) (by decide) k)
                  show Gl _ _ _ _ (s₁.setTop (mkF m 8 #[.val (.ref a), .val (.int fr), .val (.int en), .val (.int (scan B en 8 ((scan B en 8 ((scan B en 8 fr) + (2 : Int32))) + (2 : Int32)))), .val (.int ((scan B en 8 ((scan B en 8 ((scan B en 8 fr) + (2 : Int32))) + (2 : Int32))) + (2 : Int32))), .val (.int (0 : Int32)), .unset] []))
                  refine Gl.go ?_ (fun t k => XS.iload X0.here hx rfl (hb hby d7_8) rfl k)
                  show Gl _ _ _ _ (s₁.setTop (mkF m 10 #[.val (.ref a), .val (.int fr), .val (.int en), .val (.int (scan B en 8 ((scan B en 8 ((scan B en 8 fr) + (2 : Int32))) + (2 : Int32)))), .val (.int ((scan B en 8 ((scan B en 8 ((scan B en 8 fr) + (2 : Int32))) + (2 : Int32))) + (2 : Int32))), .val (.int (0 : Int32)), .unset] [(.int (0 : Int32))]))
                  refine Gl.go ?_ (fun t k => XS.ifYes X0.here hx rfl (pc0 := 10) (pc' := 86) rfl (hb hby d7_10) rfl ((if0 _ _).trans (teq (by decide : (0 : Int32) = (0 : Int32))).1) (by decide) (by decide) k)
                  show Gl _ _ _ _ (s₁.setTop (mkF m 86 #[.val (.ref a), .val (.int fr), .val (.int en), .val (.int (scan B en 8 ((scan B en 8 ((scan B en 8 fr) + (2 : Int32))) + (2 : Int32)))), .val (.int ((scan B en 8 ((scan B en 8 ((scan B en 8 fr) + (2 : Int32))) + (2 : Int32))) + (2 : Int32))), .val (.int (0 : Int32)), .unset] []))
                  refine Gl.go ?_ (fun t k => XS.iloadN X0.here hx rfl (hb hby d7_86) rfl k)
                  show Gl _ _ _ _ (s₁.setTop (mkF m 87 #[.val (.ref a), .val (.int fr), .val (.int en), .val (.int (scan B en 8 ((scan B en 8 ((scan B en 8 fr) + (2 : Int32))) + (2 : Int32)))), .val (.int ((scan B en 8 ((scan B en 8 ((scan B en 8 fr) + (2 : Int32))) + (2 : Int32))) + (2 : Int32))), .val (.int (0 : Int32)), .unset] [(.int (scan B en 8 ((scan B en 8 ((scan B en 8 fr) + (2 : Int32))) + (2 : Int32))))]))
                  refine Gl.go ?_ (fun t k => XS.istore X0.here hx rfl (hb hby d7_87) rfl (l' := #[.val (.ref a), .val (.int fr), .val (.int en), .val (.int (scan B en 8 ((scan B en 8 ((scan B en 8 fr) + (2 : Int32))) + (2 : Int32)))), .val (.int ((scan B en 8 ((scan B en 8 ((scan B en 8 fr) + (2 : Int32))) + (2 : Int32))) + (2 : Int32))), .val (.int (0 : Int32)), .val (.int (scan B en 8 ((scan B en 8 ((scan B en 8 fr) + (2 : Int32))) + (2 : Int32))))]) rfl k)
                  show Gl _ _ _ _ (s₁.setTop (mkF m 89 #[.val (.ref a), .val (.int fr), .val (.int en), .val (.int (scan B en 8 ((scan B en 8 ((scan B en 8 fr) + (2 : Int32))) + (2 : Int32)))), .val (.int ((scan B en 8 ((scan B en 8 ((scan B en 8 fr) + (2 : Int32))) + (2 : Int32))) + (2 : Int32))), .val (.int (0 : Int32)), .val (.int (scan B en 8 ((scan B en 8 ((scan B en 8 fr) + (2 : Int32))) + (2 : Int32))))] []))
                  refine Gl.go ?_ (fun t k => XS.iloadN X0.here hx rfl (hb hby d7_89) rfl k)
                  show Gl _ _ _ _ (s₁.setTop (mkF m 90 #[.val (.ref a), .val (.int fr), .val (.int en), .val (.int (scan B en 8 ((scan B en 8 ((scan B en 8 fr) + (2 : Int32))) + (2 : Int32)))), .val (.int ((scan B en 8 ((scan B en 8 ((scan B en 8 fr) + (2 : Int32))) + (2 : Int32))) + (2 : Int32))), .val (.int (0 : Int32)), .val (.int (scan B en 8 ((scan B en 8 ((scan B en 8 fr) + (2 : Int32))) + (2 : Int32))))] [(.int (scan B en 8 ((scan B en 8 ((scan B en 8 fr) + (2 : Int32))) + (2 : Int32))))]))
                  refine Gl.go ?_ (fun t k => XS.ifYes X0.here hx rfl (pc0 := 90) (pc' := 119) rfl (hb hby d7_90) rfl ((if0 _ _).trans (flt (iv_nlt' (k := 0) rfl (Int.le_trans hb88.1 hs89.1))).2.1) (by decide) (by decide) k)
                  show Gl _ _ _ _ (s₁.setTop (mkF m 119 #[.val (.ref a), .val (.int fr), .val (.int en), .val (.int (scan B en 8 ((scan B en 8 ((scan B en 8 fr) + (2 : Int32))) + (2 : Int32)))), .val (.int ((scan B en 8 ((scan B en 8 ((scan B en 8 fr) + (2 : Int32))) + (2 : Int32))) + (2 : Int32))), .val (.int (0 : Int32)), .val (.int (scan B en 8 ((scan B en 8 ((scan B en 8 fr) + (2 : Int32))) + (2 : Int32))))] []))
                  refine Gl.go ?_ (fun t k => XS.iload X0.here hx rfl (hb hby d7_119) rfl k)
                  show Gl _ _ _ _ (s₁.setTop (mkF m 121 #[.val (.ref a), .val (.int fr), .val (.int en), .val (.int (scan B en 8 ((scan B en 8 ((scan B en 8 fr) + (2 : Int32))) + (2 : Int32)))), .val (.int ((scan B en 8 ((scan B en 8 ((scan B en 8 fr) + (2 : Int32))) + (2 : Int32))) + (2 : Int32))), .val (.int (0 : Int32)), .val (.int (scan B en 8 ((scan B en 8 ((scan B en 8 fr) + (2 : Int32))) + (2 : Int32))))] [(.int (scan B en 8 ((scan B en 8 ((scan B en 8 fr) + (2 : Int32))) + (2 : Int32))))]))
                  obtain ⟨fs, hr, hrun, hended, hW, hsame⟩ := X0.leave (v := some (.int (scan B en 8 ((scan B en 8 ((scan B en 8 fr) + (2 : Int32))) + (2 : Int32))))) (fun h => by rw [Bd.returns] at h; cases h) (BodyLoose.notSynchronized Bd)
                  exact Gl.mk ⟨_, _, retI X0 hx Bd.returns (hb hby d7_121) hr, hrun, hended, _, _, rfl, ⟨congrArg (fun z => some (Value.int z)) ((if_pos hc70).trans ((if_neg hc71).trans ((if_neg hc74).trans ((if_pos hc80).trans ((if_neg hc81).trans ((if_neg hc84).trans ((if_pos hc90).trans ((if_pos hc91).trans (rfl))))))))).symm, rfl, e0⟩, ⟨_, rfl⟩, hW, hsame.mono (by decide) (by decide)⟩
                · refine Gl.go ?_ (fun t k => XS.icmpNo X0.here hx rfl (hb hby d7_50) rfl (feq hc91).1 k)
                  show Gl _ _ _ _ (s₁.setTop (mkF m 53 #[.val (.ref a), .val (.int fr), .val (.int en), .val (.int (scan B en 8 ((scan B en 8 fr) + (2 : Int32)))), .val (.int (scan B en 8 ((scan B en 8 ((scan B en 8 fr) + (2 : Int32))) + (2 : Int32)))), .val (.int (1 : Int32)), .unset] []))
                  refine Gl.go ?_ (fun t k => XS.aloadN X0.here hx rfl (hb hby d7_53) rfl rfl k)
                  show Gl _ _ _ _ (s₁.setTop (mkF m 54 #[.val (.ref a), .val (.int fr), .val (.int en), .val (.int (scan B en 8 ((scan B en 8 fr) + (2 : Int32)))), .val (.int (scan B en 8 ((scan B en 8 ((scan B en 8 fr) + (2 : Int32))) + (2 : Int32)))), .val (.int (1 : Int32)), .unset] [(.ref a)]))
                  refine Gl.go ?_ (fun t k => XS.iload X0.here hx rfl (hb hby d7_54) rfl k)
                  show Gl _ _ _ _ (s₁.setTop (mkF m 56 #[.val (.ref a), .val (.int fr), .val (.int en), .val (.int (scan B en 8 ((scan B en 8 fr) + (2 : Int32)))), .val (.int (scan B en 8 ((scan B en 8 ((scan B en 8 fr) + (2 : Int32))) + (2 : Int32)))), .val (.int (1 : Int32)), .unset] [(.int (scan B en 8 ((scan B en 8 ((scan B en 8 fr) + (2 : Int32))) + (2 : Int32)))), (.ref a)]))
                  refine Gl.go ?_ (fun t k => XS.iconst X0.here hx rfl (hb hby d7_56) k)
                  show Gl _ _ _ _ (s₁.setTop (mkF m 57 #[.val (.ref a), .val (.int fr), .val (.int en), .val (.int (scan B en 8 ((scan B en 8 fr) + (2 : Int32)))), .val (.int (scan B en 8 ((scan B en 8 ((scan B en 8 fr) + (2 : Int32))) + (2 : Int32)))), .val (.int (1 : Int32)), .unset] [(.int (1 : Int32)), (.int (scan B en 8 ((scan B en 8 ((scan B en 8 fr) + (2 : Int32))) + (2 : Int32)))), (.ref a)]))
                  refine Gl.go ?_ (fun t k => XS.iadd X0.here hx rfl (hb hby d7_57) rfl k)
                  show Gl _ _ _ _ (s₁.setTop (mkF m 58 #[.val (.ref a), .val (.int fr), .val (.int en), .val (.int (scan B en 8 ((scan B en 8 fr) + (2 : Int32)))), .val (.int (scan B en 8 ((scan B en 8 ((scan B en 8 fr) + (2 : Int32))) + (2 : Int32)))), .val (.int (1 : Int32)), .unset] [(.int ((scan B en 8 ((scan B en 8 ((scan B en 8 fr) + (2 : Int32))) + (2 : Int32))) + (1 : Int32))), (.ref a)]))
                  refine Gl.go ?_ (BA.rdB hB X0 hx hZ e0 (own_in (own_j1 (own_w (c := 10) hb88 (by decide)) hs89) hE hc90).1 (own_in (own_j1 (own_w (c := 10) hb88 (by decide)) hs89) hE hc90).2 (g := (mkF m 58 #[.val (.ref a), .val (.int fr), .val (.int en), .val (.int (scan B en 8 ((scan B en 8 fr) + (2 : Int32)))), .val (.int (scan B en 8 ((scan B en 8 ((scan B en 8 fr) + (2 : Int32))) + (2 : Int32)))), .val (.int (1 : Int32)), .unset] [(.int ((scan B en 8 ((scan B en 8 ((scan B en 8 fr) + (2 : Int32))) + (2 : Int32))) + (1 : Int32))), (.ref a)])) rfl rfl (hb hby d7_58))
                  show Gl _ _ _ _ (s₁.setTop (mkF m 59 #[.val (.ref a), .val (.int fr), .val (.int en), .val (.int (scan B en 8 ((scan B en 8 fr) + (2 : Int32)))), .val (.int (scan B en 8 ((scan B en 8 ((scan B en 8 fr) + (2 : Int32))) + (2 : Int32)))), .val (.int (1 : Int32)), .unset] [(.int (B ((scan B en 8 ((scan B en 8 ((scan B en 8 fr) + (2 : Int32))) + (2 : Int32))) + (1 : Int32))))]))
                  refine Gl.go ?_ (fun t k => XS.bipush X0.here hx rfl (hb hby d7_59) k)
                  show Gl _ _ _ _ (s₁.setTop (mkF m 61 #[.val (.ref a), .val (.int fr), .val (.int en), .val (.int (scan B en 8 ((scan B en 8 fr) + (2 : Int32)))), .val (.int (scan B en 8 ((scan B en 8 ((scan B en 8 fr) + (2 : Int32))) + (2 : Int32)))), .val (.int (1 : Int32)), .unset] [(.int (63 : Int32)), (.int (B ((scan B en 8 ((scan B en 8 ((scan B en 8 fr) + (2 : Int32))) + (2 : Int32))) + (1 : Int32))))]))
                  by_cases hc94 : (B ((scan B en 8 ((scan B en 8 ((scan B en 8 fr) + (2 : Int32))) + (2 : Int32))) + (1 : Int32))) = (63 : Int32)
                  · refine Gl.go ?_ (fun t k => XS.icmpYes X0.here hx rfl (pc0 := 61) (pc' := 68) rfl (hb hby d7_61) rfl (teq hc94).1 (by decide) (by decide) k)
                    show Gl _ _ _ _ (s₁.setTop (mkF m 68 #[.val (.ref a), .val (.int fr), .val (.int en), .val (.int (scan B en 8 ((scan B en 8 fr) + (2 : Int32)))), .val (.int (scan B en 8 ((scan B en 8 ((scan B en 8 fr) + (2 : Int32))) + (2 : Int32)))), .val (.int (1 : Int32)), .unset] []))
                    refine Gl.go ?_ (fun t k => XS.iconst X0.here hx rfl (hb hby d7_68) k)
                    show Gl _ _ _ _ (s₁.setTop (mkF m 69 #[.val (.ref a), .val (.int fr), .val (.int en), .val (.int (scan B en 8 ((scan B en 8 fr) + (2 : Int32)))), .val (.int (scan B en 8 ((scan B en 8 ((scan B en 8 fr) + (2 : Int32))) + (2 : Int32)))), .val (.int (1 : Int32)), .unset] [(.int (0 : Int32))]))
                    refine Gl.go ?_ (fun t k => XS.istore X0.here hx rfl (hb hby d7_69) rfl (l' := #[.val (.ref a), .val (.int fr), .val (.int en), .val (.int (scan B en 8 ((scan B en 8 fr) + (2 : Int32)))), .val (.int (scan B en 8 ((scan B en 8 ((scan B en 8 fr) + (2 : Int32))) + (2 : Int32)))), .val (.int (0 : Int32)), .unset]) rfl k)
                    show Gl _ _ _ _ (s₁.setTop (mkF m 71 #[.val (.ref a), .val (.int fr), .val (.int en), .val (.int (scan B en 8 ((scan B en 8 fr) + (2 : Int32)))), .val (.int (scan B en 8 ((scan B en 8 ((scan B en 8 fr) + (2 : Int32))) + (2 : Int32)))), .val (.int (0 : Int32)), .unset] []))
                    refine Gl.go ?_ (fun t k => XS.iload X0.here hx rfl (hb hby d7_71) rfl k)
                    show Gl _ _ _ _ (s₁.setTop (mkF m 73 #[.val (.ref a), .val (.int fr), .val (.int en), .val (.int (scan B en 8 ((scan B en 8 fr) + (2 : Int32)))), .val (.int (scan B en 8 ((scan B en 8 ((scan B en 8 fr) + (2 : Int32))) + (2 : Int32)))), .val (.int (0 : Int32)), .unset] [(.int (scan B en 8 ((scan B en 8 ((scan B en 8 fr) + (2 : Int32))) + (2 : Int32))))]))
                    refine Gl.go ?_ (fun t k => XS.iloadN X0.here hx rfl (hb hby d7_73) rfl k)
                    show Gl _ _ _ _ (s₁.setTop (mkF m 74 #[.val (.ref a), .val (.int fr), .val (.int en), .val (.int (scan B en 8 ((scan B en 8 fr) + (2 : Int32)))), .val (.int (scan B en 8 ((scan B en 8 ((scan B en 8 fr) + (2 : Int32))) + (2 : Int32)))), .val (.int (0 : Int32)), .unset] [(.int en), (.int (scan B en 8 ((scan B en 8 ((scan B en 8 fr) + (2 : Int32))) + (2 : Int32))))]))
                    refine Gl.go ?_ (fun t k => XS.icmpNo X0.here hx rfl (hb hby d7_74) rfl (tlt (own_j2 (own_w (c := 10) hb88 (by decide)) hs89 hc90)).2.1 k)
                    show Gl _ _ _ _ (s₁.setTop (mkF m 77 #[.val (.ref a), .val (.int fr), .val (.int en), .val (.int (scan B en 8 ((scan B en 8 fr) + (2 : Int32)))), .val (.int (scan B en 8 ((scan B en 8 ((scan B en 8 fr) + (2 : Int32))) + (2 : Int32)))), .val (.int (0 : Int32)), .unset] []))
                    refine Gl.go ?_ (fun t k => XS.iload X0.here hx rfl (hb hby d7_77) rfl k)
                    show Gl _ _ _ _ (s₁.setTop (mkF m 79 #[.val (.ref a), .val (.int fr), .val (.int en), .val (.int (scan B en 8 ((scan B en 8 fr) + (2 : Int32)))), .val (.int (scan B en 8 ((scan B en 8 ((scan B en 8 fr) + (2 : Int32))) + (2 : Int32)))), .val (.int (0 : Int32)), .unset] [(.int (scan B en 8 ((scan B en 8 ((scan B en 8 fr) + (2 : Int32))) + (2 : Int32))))]))
                    refine Gl.go ?_ (fun t k => XS.istoreN X0.here hx rfl (hb hby d7_79) rfl (l' := #[.val (.ref a), .val (.int fr), .val (.int en), .val (.int (scan B en 8 ((scan B en 8 ((scan B en 8 fr) + (2 : Int32))) + (2 : Int32)))), .val (.int (scan B en 8 ((scan B en 8 ((scan B en 8 fr) + (2 : Int32))) + (2 : Int32)))), .val (.int (0 : Int32)), .unset]) rfl k)
                    show Gl _ _ _ _ (s₁.setTop (mkF m 80 #[.val (.ref a), .val (.int fr), .val (.int en), .val (.int (scan B en 8 ((scan B en 8 ((scan B en 8 fr) + (2 : Int32))) + (2 : Int32)))), .val (.int (scan B en 8 ((scan B en 8 ((scan B en 8 fr) + (2 : Int32))) + (2 : Int32)))), .val (.int (0 : Int32)), .unset] []))
                    refine Gl.go ?_ (fun t k => XS.iinc X0.here hx rfl (hb hby d7_80) rfl (l' := #[.val (.ref a), .val (.int fr), .val (.int en), .val (.int (scan B en 8 ((scan B en 8 ((scan B en 8 fr) + (2 : Int32))) + (2 : Int32)))), .val (.int ((scan B en 8 ((scan B en 8 ((scan B en 8 fr) + (2 : Int32))) + (2 : Int32))) + (2 : Int32))), .val (.int (0 : Int32)), .unset]) rfl k)
                    show Gl _ _ _ _ (s₁.setTop (mkF m 83 #[.val (.ref a), .val (.int fr), .val (.int en), .val (.int (scan B en 8 ((scan B en 8 ((scan B en 8 fr) + (2 : Int32))) + (2 : Int32)))), .val (.int ((scan B en 8 ((scan B en 8 ((scan B en 8 fr) + (2 : Int32))) + (2 : Int32))) + (2 : Int32))), .val (.int (0 : Int32)), .unset] []))
                    have hu95 := own_up2 (c := 10) hb88 hs89 (by decide) (by decide)
                    have hb96 : 0 ≤ (((scan B en 8 ((scan B en 8 ((scan B en 8 fr) + (2 : Int32))) + (2 : Int32))) + (2 : Int32))).toInt ∧ (((scan B en 8 ((scan B en 8 ((scan B en 8 fr) + (2 : Int32))) + (2 : Int32))) + (2 : Int32))).toInt ≤ 12 := own_w3 hu95
                    refine Gl.go ?_ (fun t k => XS.goto X0.here hx rfl (pc0 := 83) (pc' := 8) rfl (hb hby d7_83) (by decide) (by decide) k)
                    show Gl _ _ _ _ (s₁.setTop (mkF m 8 #[.val (.ref a), .val (.int fr), .val (.int en), .val (.int (scan B en 8 ((scan B en 8 ((scan B en 8 fr) + (2 : Int32))) + (2 : Int32)))), .val (.int ((scan B en 8 ((scan B en 8 ((scan B en 8 fr) + (2 : Int32))) + (2 : Int32))) + (2 : Int32))), .val (.int (0 : Int32)), .unset] []))
                    refine Gl.go ?_ (fun t k => XS.iload X0.here hx rfl (hb hby d7_8) rfl k)
                    show Gl _ _ _ _ (s₁.setTop (mkF m 10 #[.val (.ref a), .val (.int fr), .val (.int en), .val (.int (scan B en 8 ((scan B en 8 ((scan B en 8 fr) + (2 : Int32))) + (2 : Int32)))), .val (.int ((scan B en 8 ((scan B en 8 ((scan B en 8 fr) + (2 : Int32))) + (2 : Int32))) + (2 : Int32))), .val (.int (0 : Int32)), .unset] [(.int (0 : Int32))]))
                    refine Gl.go ?_ (fun t k => XS.ifYes X0.here hx rfl (pc0 := 10) (pc' := 86) rfl (hb hby d7_10) rfl ((if0 _ _).trans (teq (by decide : (0 : Int32) = (0 : Int32))).1) (by decide) (by decide) k)
                    show Gl _ _ _ _ (s₁.setTop (mkF m 86 #[.val (.ref a), .val (.int fr), .val (.int en), .val (.int (scan B en 8 ((scan B en 8 ((scan B en 8 fr) + (2 : Int32))) + (2 : Int32)))), .val (.int ((scan B en 8 ((scan B en 8 ((scan B en 8 fr) + (2 : Int32))) + (2 : Int32))) + (2 : Int32))), .val (.int (0 : Int32)), .unset] []))
                    refine Gl.go ?_ (fun t k => XS.iloadN X0.here hx rfl (hb hby d7_86) rfl k)
                    show Gl _ _ _ _ (s₁.setTop (mkF m 87 #[.val (.ref a), .val (.int fr), .val (.int en), .val (.int (scan B en 8 ((scan B en 8 ((scan B en 8 fr) + (2 : Int32))) + (2 : Int32)))), .val (.int ((scan B en 8 ((scan B en 8 ((scan B en 8 fr) + (2 : Int32))) + (2 : Int32))) + (2 : Int32))), .val (.int (0 : Int32)), .unset] [(.int (scan B en 8 ((scan B en 8 ((scan B en 8 fr) + (2 : Int32))) + (2 : Int32))))]))
                    refine Gl.go ?_ (fun t k => XS.istore X0.here hx rfl (hb hby d7_87) rfl (l' := #[.val (.ref a), .val (.int fr), .val (.int en), .val (.int (scan B en 8 ((scan B en 8 ((scan B en 8 fr) + (2 : Int32))) + (2 : Int32)))), .val (.int ((scan B en 8 ((scan B en 8 ((scan B en 8 fr) + (2 : Int32))) + (2 : Int32))) + (2 : Int32))), .val (.int (0 : Int32)), .val (.int (scan B en 8 ((scan B en 8 ((scan B en 8 fr) + (2 : Int32))) + (2 : Int32))))]) rfl k)
                    show Gl _ _ _ _ (s₁.setTop (mkF m 89 #[.val (.ref a), .val (.int fr), .val (.int en), .val (.int (scan B en 8 ((scan B en 8 ((scan B en 8 fr) + (2 : Int32))) + (2 : Int32)))), .val (.int ((scan B en 8 ((scan B en 8 ((scan B en 8 fr) + (2 : Int32))) + (2 : Int32))) + (2 : Int32))), .val (.int (0 : Int32)), .val (.int (scan B en 8 ((scan B en 8 ((scan B en 8 fr) + (2 : Int32))) + (2 : Int32))))] []))
                    refine Gl.go ?_ (fun t k => XS.iloadN X0.here hx rfl (hb hby d7_89) rfl k)
                    show Gl _ _ _ _ (s₁.setTop (mkF m 90 #[.val (.ref a), .val (.int fr), .val (.int en), .val (.int (scan B en 8 ((scan B en 8 ((scan B en 8 fr) + (2 : Int32))) + (2 : Int32)))), .val (.int ((scan B en 8 ((scan B en 8 ((scan B en 8 fr) + (2 : Int32))) + (2 : Int32))) + (2 : Int32))), .val (.int (0 : Int32)), .val (.int (scan B en 8 ((scan B en 8 ((scan B en 8 fr) + (2 : Int32))) + (2 : Int32))))] [(.int (scan B en 8 ((scan B en 8 ((scan B en 8 fr) + (2 : Int32))) + (2 : Int32))))]))
                    refine Gl.go ?_ (fun t k => XS.ifYes X0.here hx rfl (pc0 := 90) (pc' := 119) rfl (hb hby d7_90) rfl ((if0 _ _).trans (flt (iv_nlt' (k := 0) rfl (Int.le_trans hb88.1 hs89.1))).2.1) (by decide) (by decide) k)
                    show Gl _ _ _ _ (s₁.setTop (mkF m 119 #[.val (.ref a), .val (.int fr), .val (.int en), .val (.int (scan B en 8 ((scan B en 8 ((scan B en 8 fr) + (2 : Int32))) + (2 : Int32)))), .val (.int ((scan B en 8 ((scan B en 8 ((scan B en 8 fr) + (2 : Int32))) + (2 : Int32))) + (2 : Int32))), .val (.int (0 : Int32)), .val (.int (scan B en 8 ((scan B en 8 ((scan B en 8 fr) + (2 : Int32))) + (2 : Int32))))] []))
                    refine Gl.go ?_ (fun t k => XS.iload X0.here hx rfl (hb hby d7_119) rfl k)
                    show Gl _ _ _ _ (s₁.setTop (mkF m 121 #[.val (.ref a), .val (.int fr), .val (.int en), .val (.int (scan B en 8 ((scan B en 8 ((scan B en 8 fr) + (2 : Int32))) + (2 : Int32)))), .val (.int ((scan B en 8 ((scan B en 8 ((scan B en 8 fr) + (2 : Int32))) + (2 : Int32))) + (2 : Int32))), .val (.int (0 : Int32)), .val (.int (scan B en 8 ((scan B en 8 ((scan B en 8 fr) + (2 : Int32))) + (2 : Int32))))] [(.int (scan B en 8 ((scan B en 8 ((scan B en 8 fr) + (2 : Int32))) + (2 : Int32))))]))
                    obtain ⟨fs, hr, hrun, hended, hW, hsame⟩ := X0.leave (v := some (.int (scan B en 8 ((scan B en 8 ((scan B en 8 fr) + (2 : Int32))) + (2 : Int32))))) (fun h => by rw [Bd.returns] at h; cases h) (BodyLoose.notSynchronized Bd)
                    exact Gl.mk ⟨_, _, retI X0 hx Bd.returns (hb hby d7_121) hr, hrun, hended, _, _, rfl, ⟨congrArg (fun z => some (Value.int z)) ((if_pos hc70).trans ((if_neg hc71).trans ((if_neg hc74).trans ((if_pos hc80).trans ((if_neg hc81).trans ((if_neg hc84).trans ((if_pos hc90).trans ((if_neg hc91).trans ((if_pos hc94).trans (rfl)))))))))).symm, rfl, e0⟩, ⟨_, rfl⟩, hW, hsame.mono (by decide) (by decide)⟩
                  · refine Gl.go ?_ (fun t k => XS.icmpNo X0.here hx rfl (hb hby d7_61) rfl (feq hc94).1 k)
                    show Gl _ _ _ _ (s₁.setTop (mkF m 64 #[.val (.ref a), .val (.int fr), .val (.int en), .val (.int (scan B en 8 ((scan B en 8 fr) + (2 : Int32)))), .val (.int (scan B en 8 ((scan B en 8 ((scan B en 8 fr) + (2 : Int32))) + (2 : Int32)))), .val (.int (1 : Int32)), .unset] []))
                    refine Gl.go ?_ (fun t k => XS.iconst X0.here hx rfl (hb hby d7_64) k)
                    show Gl _ _ _ _ (s₁.setTop (mkF m 65 #[.val (.ref a), .val (.int fr), .val (.int en), .val (.int (scan B en 8 ((scan B en 8 fr) + (2 : Int32)))), .val (.int (scan B en 8 ((scan B en 8 ((scan B en 8 fr) + (2 : Int32))) + (2 : Int32)))), .val (.int (1 : Int32)), .unset] [(.int (1 : Int32))]))
                    refine Gl.go ?_ (fun t k => XS.goto X0.here hx rfl (pc0 := 65) (pc' := 69) rfl (hb hby d7_65) (by decide) (by decide) k)
                    show Gl _ _ _ _ (s₁.setTop (mkF m 69 #[.val (.ref a), .val (.int fr), .val (.int en), .val (.int (scan B en 8 ((scan B en 8 fr) + (2 : Int32)))), .val (.int (scan B en 8 ((scan B en 8 ((scan B en 8 fr) + (2 : Int32))) + (2 : Int32)))), .val (.int (1 : Int32)), .unset] [(.int (1 : Int32))]))
                    refine Gl.go ?_ (fun t k => XS.istore X0.here hx rfl (hb hby d7_69) rfl (l' := #[.val (.ref a), .val (.int fr), .val (.int en), .val (.int (scan B en 8 ((scan B en 8 fr) + (2 : Int32)))), .val (.int (scan B en 8 ((scan B en 8 ((scan B en 8 fr) + (2 : Int32))) + (2 : Int32)))), .val (.int (1 : Int32)), .unset]) rfl k)
                    show Gl _ _ _ _ (s₁.setTop (mkF m 71 #[.val (.ref a), .val (.int fr), .val (.int en), .val (.int (scan B en 8 ((scan B en 8 fr) + (2 : Int32)))), .val (.int (scan B en 8 ((scan B en 8 ((scan B en 8 fr) + (2 : Int32))) + (2 : Int32)))), .val (.int (1 : Int32)), .unset] []))
                    refine Gl.go ?_ (fun t k => XS.iload X0.here hx rfl (hb hby d7_71) rfl k)
                    show Gl _ _ _ _ (s₁.setTop (mkF m 73 #[.val (.ref a), .val (.int fr), .val (.int en), .val (.int (scan B en 8 ((scan B en 8 fr) + (2 : Int32)))), .val (.int (scan B en 8 ((scan B en 8 ((scan B en 8 fr) + (2 : Int32))) + (2 : Int32)))), .val (.int (1 : Int32)), .unset] [(.int (scan B en 8 ((scan B en 8 ((scan B en 8 fr) + (2 : Int32))) + (2 : Int32))))]))
                    refine Gl.go ?_ (fun t k => XS.iloadN X0.here hx rfl (hb hby d7_73) rfl k)
                    show Gl _ _ _ _ (s₁.setTop (mkF m 74 #[.val (.ref a), .val (.int fr), .val (.int en), .val (.int (scan B en 8 ((scan B en 8 fr) + (2 : Int32)))), .val (.int (scan B en 8 ((scan B en 8 ((scan B en 8 fr) + (2 : Int32))) + (2 : Int32)))), .val (.int (1 : Int32)), .unset] [(.int en), (.int (scan B en 8 ((scan B en 8 ((scan B en 8 fr) + (2 : Int32))) + (2 : Int32))))]))
                    refine Gl.go ?_ (fun t k => XS.icmpNo X0.here hx rfl (hb hby d7_74) rfl (tlt (own_j2 (own_w (c := 10) hb88 (by decide)) hs89 hc90)).2.1 k)
                    show Gl _ _ _ _ (s₁.setTop (mkF m 77 #[.val (.ref a), .val (.int fr), .val (.int en), .val (.int (scan B en 8 ((scan B en 8 fr) + (2 : Int32)))), .val (.int (scan B en 8 ((scan B en 8 ((scan B en 8 fr) + (2 : Int32))) + (2 : Int32)))), .val (.int (1 : Int32)), .unset] []))
                    refine Gl.go ?_ (fun t k => XS.iload X0.here hx rfl (hb hby d7_77) rfl k)
                    show Gl _ _ _ _ (s₁.setTop (mkF m 79 #[.val (.ref a), .val (.int fr), .val (.int en), .val (.int (scan B en 8 ((scan B en 8 fr) + (2 : Int32)))), .val (.int (scan B en 8 ((scan B en 8 ((scan B en 8 fr) + (2 : Int32))) + (2 : Int32)))), .val (.int (1 : Int32)), .unset] [(.int (scan B en 8 ((scan B en 8 ((scan B en 8 fr) + (2 : Int32))) + (2 : Int32))))]))
                    refine Gl.go ?_ (fun t k => XS.istoreN X0.here hx rfl (hb hby d7_79) rfl (l' := #[.val (.ref a), .val (.int fr), .val (.int en), .val (.int (scan B en 8 ((scan B en 8 ((scan B en 8 fr) + (2 : Int32))) + (2 : Int32)))), .val (.int (scan B en 8 ((scan B en 8 ((scan B en 8 fr) + (2 : Int32))) + (2 : Int32)))), .val (.int (1 : Int32)), .unset]) rfl k)
                    show Gl _ _ _ _ (s₁.setTop (mkF m 80 #[.val (.ref a), .val (.int fr), .val (.int en), .val (.int (scan B en 8 ((scan B en 8 ((scan B en 8 fr) + (2 : Int32))) + (2 : Int32)))), .val (.int (scan B en 8 ((scan B en 8 ((scan B en 8 fr) + (2 : Int32))) + (2 : Int32)))), .val (.int (1 : Int32)), .unset] []))
                    refine Gl.go ?_ (fun t k => XS.iinc X0.here hx rfl (hb hby d7_80) rfl (l' := #[.val (.ref a), .val (.int fr), .val (.int en), .val (.int (scan B en 8 ((scan B en 8 ((scan B en 8 fr) + (2 : Int32))) + (2 : Int32)))), .val (.int ((scan B en 8 ((scan B en 8 ((scan B en 8 fr) + (2 : Int32))) + (2 : Int32))) + (2 : Int32))), .val (.int (1 : Int32)), .unset]) rfl k)
                    show Gl _ _ _ _ (s₁.setTop (mkF m 83 #[.val (.ref a), .val (.int fr), .val (.int en), .val (.int (scan B en 8 ((scan B en 8 ((scan B en 8 fr) + (2 : Int32))) + (2 : Int32)))), .val (.int ((scan B en 8 ((scan B en 8 ((scan B en 8 fr) + (2 : Int32))) + (2 : Int32))) + (2 : Int32))), .val (.int (1 : Int32)), .unset] []))
                    have hu97 := own_up2 (c := 10) hb88 hs89 (by decide) (by decide)
                    have hb98 : 0 ≤ (((scan B en 8 ((scan B en 8 ((scan B en 8 fr) + (2 : Int32))) + (2 : Int32))) + (2 : Int32))).toInt ∧ (((scan B en 8 ((scan B en 8 ((scan B en 8 fr) + (2 : Int32))) + (2 : Int32))) + (2 : Int32))).toInt ≤ 12 := own_w3 hu97
                    have hf99 : 6 ≤ (((scan B en 8 ((scan B en 8 ((scan B en 8 fr) + (2 : Int32))) + (2 : Int32))) + (2 : Int32))).toInt := by have q0 := hu77; have q1 := hs69; have q2 := hu87; have q3 := hs79; have q4 := hu97; have q5 := hs89; omega
                    refine Gl.go ?_ (fun t k => XS.goto X0.here hx rfl (pc0 := 83) (pc' := 8) rfl (hb hby d7_83) (by decide) (by decide) k)
                    show Gl _ _ _ _ (s₁.setTop (mkF m 8 #[.val (.ref a), .val (.int fr), .val (.int en), .val (.int (scan B en 8 ((scan B en 8 ((scan B en 8 fr) + (2 : Int32))) + (2 : Int32)))), .val (.int ((scan B en 8 ((scan B en 8 ((scan B en 8 fr) + (2 : Int32))) + (2 : Int32))) + (2 : Int32))), .val (.int (1 : Int32)), .unset] []))
                    refine Gl.go ?_ (fun t k => XS.iload X0.here hx rfl (hb hby d7_8) rfl k)
                    show Gl _ _ _ _ (s₁.setTop (mkF m 10 #[.val (.ref a), .val (.int fr), .val (.int en), .val (.int (scan B en 8 ((scan B en 8 ((scan B en 8 fr) + (2 : Int32))) + (2 : Int32)))), .val (.int ((scan B en 8 ((scan B en 8 ((scan B en 8 fr) + (2 : Int32))) + (2 : Int32))) + (2 : Int32))), .val (.int (1 : Int32)), .unset] [(.int (1 : Int32))]))
                    refine Gl.go ?_ (fun t k => XS.ifNo X0.here hx rfl (hb hby d7_10) rfl ((if0 _ _).trans (feq (by decide : ¬ ((1 : Int32) = (0 : Int32)))).1) k)
                    refine loop_scan X0 hx hZ hby e0 a fr en (scan B en 8 ((scan B en 8 ((scan B en 8 fr) + (2 : Int32))) + (2 : Int32))) (1 : Int32) B hB hE 8 ((scan B en 8 ((scan B en 8 ((scan B en 8 fr) + (2 : Int32))) + (2 : Int32))) + (2 : Int32)) hb98.1 (by have := hb98.1; omega) ?_
                    have hs100 := own_scan_ge (B := B) hE 8 ((scan B en 8 ((scan B en 8 ((scan B en 8 fr) + (2 : Int32))) + (2 : Int32))) + (2 : Int32)) (own_w (c := 12) hb98 (by decide)).1 (own_w (c := 12) hb98 (by decide)).2
                    show Gl _ _ _ _ (s₁.setTop (mkF m 34 #[.val (.ref a), .val (.int fr), .val (.int en), .val (.int (scan B en 8 ((scan B en 8 ((scan B en 8 fr) + (2 : Int32))) + (2 : Int32)))), .val (.int (scan B en 8 ((scan B en 8 ((scan B en 8 ((scan B en 8 fr) + (2 : Int32))) + (2 : Int32))) + (2 : Int32)))), .val (.int (1 : Int32)), .unset] []))
                    refine Gl.go ?_ (fun t k => XS.iload X0.here hx rfl (hb hby d7_34) rfl k)
                    show Gl _ _ _ _ (s₁.setTop (mkF m 36 #[.val (.ref a), .val (.int fr), .val (.int en), .val (.int (scan B en 8 ((scan B en 8 ((scan B en 8 fr) + (2 : Int32))) + (2 : Int32)))), .val (.int (scan B en 8 ((scan B en 8 ((scan B en 8 ((scan B en 8 fr) + (2 : Int32))) + (2 : Int32))) + (2 : Int32)))), .val (.int (1 : Int32)), .unset] [(.int (scan B en 8 ((scan B en 8 ((scan B en 8 ((scan B en 8 fr) + (2 : Int32))) + (2 : Int32))) + (2 : Int32))))]))
                    refine Gl.go ?_ (fun t k => XS.iconst X0.here hx rfl (hb hby d7_36) k)
                    show Gl _ _ _ _ (s₁.setTop (mkF m 37 #[.val (.ref a), .val (.int fr), .val (.int en), .val (.int (scan B en 8 ((scan B en 8 ((scan B en 8 fr) + (2 : Int32))) + (2 : Int32)))), .val (.int (scan B en 8 ((scan B en 8 ((scan B en 8 ((scan B en 8 fr) + (2 : Int32))) + (2 : Int32))) + (2 : Int32)))), .val (.int (1 : Int32)), .unset] [(.int (1 : Int32)), (.int (scan B en 8 ((scan B en 8 ((scan B en 8 ((scan B en 8 fr) + (2 : Int32))) + (2 : Int32))) + (2 : Int32))))]))
                    refine Gl.go ?_ (fun t k => XS.iadd X0.here hx rfl (hb hby d7_37) rfl k)
                    show Gl _ _ _ _ (s₁.setTop (mkF m 38 #[.val (.ref a), .val (.int fr), .val (.int en), .val (.int (scan B en 8 ((scan B en 8 ((scan B en 8 fr) + (2 : Int32))) + (2 : Int32)))), .val (.int (scan B en 8 ((scan B en 8 ((scan B en 8 ((scan B en 8 fr) + (2 : Int32))) + (2 : Int32))) + (2 : Int32)))), .val (.int (1 : Int32)), .unset] [(.int ((scan B en 8 ((scan B en 8 ((scan B en 8 ((scan B en 8 fr) + (2 : Int32))) + (2 : Int32))) + (2 : Int32))) + (1 : Int32)))]))
                    refine Gl.go ?_ (fun t k => XS.iloadN X0.here hx rfl (hb hby d7_38) rfl k)
                    show Gl _ _ _ _ (s₁.setTop (mkF m 39 #[.val (.ref a), .val (.int fr), .val (.int en), .val (.int (scan B en 8 ((scan B en 8 ((scan B en 8 fr) + (2 : Int32))) + (2 : Int32)))), .val (.int (scan B en 8 ((scan B en 8 ((scan B en 8 ((scan B en 8 fr) + (2 : Int32))) + (2 : Int32))) + (2 : Int32)))), .val (.int (1 : Int32)), .unset] [(.int en), (.int ((scan B en 8 ((scan B en 8 ((scan B en 8 ((scan B en 8 fr) + (2 : Int32))) + (2 : Int32))) + (2 : Int32))) + (1 : Int32)))]))
                    refine Gl.go ?_ (fun t k => XS.icmpYes X0.here hx rfl (pc0 := 39) (pc' := 68) rfl (hb hby d7_39) rfl (flt (own_four hE hf99 (own_w (c := 12) hb98 (by decide)) hs100)).2.1 (by decide) (by decide) k)
                    show Gl _ _ _ _ (s₁.setTop (mkF m 68 #[.val (.ref a), .val (.int fr), .val (.int en), .val (.int (scan B en 8 ((scan B en 8 ((scan B en 8 fr) + (2 : Int32))) + (2 : Int32)))), .val (.int (scan B en 8 ((scan B en 8 ((scan B en 8 ((scan B en 8 fr) + (2 : Int32))) + (2 : Int32))) + (2 : Int32)))), .val (.int (1 : Int32)), .unset] []))
                    refine Gl.go ?_ (fun t k => XS.iconst X0.here hx rfl (hb hby d7_68) k)
                    show Gl _ _ _ _ (s₁.setTop (mkF m 69 #[.val (.ref a), .val (.int fr), .val (.int en), .val (.int (scan B en 8 ((scan B en 8 ((scan B en 8 fr) + (2 : Int32))) + (2 : Int32)))), .val (.int (scan B en 8 ((scan B en 8 ((scan B en 8 ((scan B en 8 fr) + (2 : Int32))) + (2 : Int32))) + (2 : Int32)))), .val (.int (1 : Int32)), .unset] [(.int (0 : Int32))]))
                    refine Gl.go ?_ (fun t k => XS.istore X0.here hx rfl (hb hby d7_69) rfl (l' := #[.val (.ref a), .val (.int fr), .val (.int en), .val (.int (scan B en 8 ((scan B en 8 ((scan B en 8 fr) + (2 : Int32))) + (2 : Int32)))), .val (.int (scan B en 8 ((scan B en 8 ((scan B en 8 ((scan B en 8 fr) + (2 : Int32))) + (2 : Int32))) + (2 : Int32)))), .val (.int (0 : Int32)), .unset]) rfl k)
                    show Gl _ _ _ _ (s₁.setTop (mkF m 71 #[.val (.ref a), .val (.int fr), .val (.int en), .val (.int (scan B en 8 ((scan B en 8 ((scan B en 8 fr) + (2 : Int32))) + (2 : Int32)))), .val (.int (scan B en 8 ((scan B en 8 ((scan B en 8 ((scan B en 8 fr) + (2 : Int32))) + (2 : Int32))) + (2 : Int32)))), .val (.int (0 : Int32)), .unset] []))
                    refine Gl.go ?_ (fun t k => XS.iload X0.here hx rfl (hb hby d7_71) rfl k)
                    show Gl _ _ _ _ (s₁.setTop (mkF m 73 #[.val (.ref a), .val (.int fr), .val (.int en), .val (.int (scan B en 8 ((scan B en 8 ((scan B en 8 fr) + (2 : Int32))) + (2 : Int32)))), .val (.int (scan B en 8 ((scan B en 8 ((scan B en 8 ((scan B en 8 fr) + (2 : Int32))) + (2 : Int32))) + (2 : Int32)))), .val (.int (0 : Int32)), .unset] [(.int (scan B en 8 ((scan B en 8 ((scan B en 8 ((scan B en 8 fr) + (2 : Int32))) + (2 : Int32))) + (2 : Int32))))]))
                    refine Gl.go ?_ (fun t k => XS.iloadN X0.here hx rfl (hb hby d7_73) rfl k)
                    show Gl _ _ _ _ (s₁.setTop (mkF m 74 #[.val (.ref a), .val (.int fr), .val (.int en), .val (.int (scan B en 8 ((scan B en 8 ((scan B en 8 fr) + (2 : Int32))) + (2 : Int32)))), .val (.int (scan B en 8 ((scan B en 8 ((scan B en 8 ((scan B en 8 fr) + (2 : Int32))) + (2 : Int32))) + (2 : Int32)))), .val (.int (0 : Int32)), .unset] [(.int en), (.int (scan B en 8 ((scan B en 8 ((scan B en 8 ((scan B en 8 fr) + (2 : Int32))) + (2 : Int32))) + (2 : Int32))))]))
                    by_cases hc101 : (scan B en 8 ((scan B en 8 ((scan B en 8 ((scan B en 8 fr) + (2 : Int32))) + (2 : Int32))) + (2 : Int32))) < en
                    · refine Gl.go ?_ (fun t k => XS.icmpNo X0.here hx rfl (hb hby d7_74) rfl (tlt hc101).2.1 k)
                      show Gl _ _ _ _ (s₁.setTop (mkF m 77 #[.val (.ref a), .val (.int fr), .val (.int en), .val (.int (scan B en 8 ((scan B en 8 ((scan B en 8 fr) + (2 : Int32))) + (2 : Int32)))), .val (.int (scan B en 8 ((scan B en 8 ((scan B en 8 ((scan B en 8 fr) + (2 : Int32))) + (2 : Int32))) + (2 : Int32)))), .val (.int (0 : Int32)), .unset] []))
                      refine Gl.go ?_ (fun t k => XS.iload X0.here hx rfl (hb hby d7_77) rfl k)
                      show Gl _ _ _ _ (s₁.setTop (mkF m 79 #[.val (.ref a), .val (.int fr), .val (.int en), .val (.int (scan B en 8 ((scan B en 8 ((scan B en 8 fr) + (2 : Int32))) + (2 : Int32)))), .val (.int (scan B en 8 ((scan B en 8 ((scan B en 8 ((scan B en 8 fr) + (2 : Int32))) + (2 : Int32))) + (2 : Int32)))), .val (.int (0 : Int32)), .unset] [(.int (scan B en 8 ((scan B en 8 ((scan B en 8 ((scan B en 8 fr) + (2 : Int32))) + (2 : Int32))) + (2 : Int32))))]))
                      refine Gl.go ?_ (fun t k => XS.istoreN X0.here hx rfl (hb hby d7_79) rfl (l' := #[.val (.ref a), .val (.int fr), .val (.int en), .val (.int (scan B en 8 ((scan B en 8 ((scan B en 8 ((scan B en 8 fr) + (2 : Int32))) + (2 : Int32))) + (2 : Int32)))), .val (.int (scan B en 8 ((scan B en 8 ((scan B en 8 ((scan B en 8 fr) + (2 : Int32))) + (2 : Int32))) + (2 : Int32)))), .val (.int (0 : Int32)), .unset]) rfl k)
                      show Gl _ _ _ _ (s₁.setTop (mkF m 80 #[.val (.ref a), .val (.int fr), .val (.int en), .val (.int (scan B en 8 ((scan B en 8 ((scan B en 8 ((scan B en 8 fr) + (2 : Int32))) + (2 : Int32))) + (2 : Int32)))), .val (.int (scan B en 8 ((scan B en 8 ((scan B en 8 ((scan B en 8 fr) + (2 : Int32))) + (2 : Int32))) + (2 : Int32)))), .val (.int (0 : Int32)), .unset] []))
                      refine Gl.go ?_ (fun t k => XS.iinc X0.here hx rfl (hb hby d7_80) rfl (l' := #[.val (.ref a), .val (.int fr), .val (.int en), .val (.int (scan B en 8 ((scan B en 8 ((scan B en 8 ((scan B en 8 fr) + (2 : Int32))) + (2 : Int32))) + (2 : Int32)))), .val (.int ((scan B en 8 ((scan B en 8 ((scan B en 8 ((scan B en 8 fr) + (2 : Int32))) + (2 : Int32))) + (2 : Int32))) + (2 : Int32))), .val (.int (0 : Int32)), .unset]) rfl k)
                      show Gl _ _ _ _ (s₁.setTop (mkF m 83 #[.val (.ref a), .val (.int fr), .val (.int en), .val (.int (scan B en 8 ((scan B en 8 ((scan B en 8 ((scan B en 8 fr) + (2 : Int32))) + (2 : Int32))) + (2 : Int32)))), .val (.int ((scan B en 8 ((scan B en 8 ((scan B en 8 ((scan B en 8 fr) + (2 : Int32))) + (2 : Int32))) + (2 : Int32))) + (2 : Int32))), .val (.int (0 : Int32)), .unset] []))
                      have hu102 := own_up2 (c := 12) hb98 hs100 (by decide) (by decide)
                      have hb103 : 0 ≤ (((scan B en 8 ((scan B en 8 ((scan B en 8 ((scan B en 8 fr) + (2 : Int32))) + (2 : Int32))) + (2 : Int32))) + (2 : Int32))).toInt ∧ (((scan B en 8 ((scan B en 8 ((scan B en 8 ((scan B en 8 fr) + (2 : Int32))) + (2 : Int32))) + (2 : Int32))) + (2 : Int32))).toInt ≤ 14 := own_w3 hu102
                      refine Gl.go ?_ (fun t k => XS.goto X0.here hx rfl (pc0 := 83) (pc' := 8) rfl (hb hby d7_83) (by decide) (by decide) k)
                      show Gl _ _ _ _ (s₁.setTop (mkF m 8 #[.val (.ref a), .val (.int fr), .val (.int en), .val (.int (scan B en 8 ((scan B en 8 ((scan B en 8 ((scan B en 8 fr) + (2 : Int32))) + (2 : Int32))) + (2 : Int32)))), .val (.int ((scan B en 8 ((scan B en 8 ((scan B en 8 ((scan B en 8 fr) + (2 : Int32))) + (2 : Int32))) + (2 : Int32))) + (2 : Int32))), .val (.int (0 : Int32)), .unset] []))
                      refine Gl.go ?_ (fun t k => XS.iload X0.here hx rfl (hb hby d7_8) rfl k)
                      show Gl _ _ _ _ (s₁.setTop (mkF m 10 #[.val (.ref a), .val (.int fr), .val (.int en), .val (.int (scan B en 8 ((scan B en 8 ((scan B en 8 ((scan B en 8 fr) + (2 : Int32))) + (2 : Int32))) + (2 : Int32)))), .val (.int ((scan B en 8 ((scan B en 8 ((scan B en 8 ((scan B en 8 fr) + (2 : Int32))) + (2 : Int32))) + (2 : Int32))) + (2 : Int32))), .val (.int (0 : Int32)), .unset] [(.int (0 : Int32))]))
                      refine Gl.go ?_ (fun t k => XS.ifYes X0.here hx rfl (pc0 := 10) (pc' := 86) rfl (hb hby d7_10) rfl ((if0 _ _).trans (teq (by decide : (0 : Int32) = (0 : Int32))).1) (by decide) (by decide) k)
                      show Gl _ _ _ _ (s₁.setTop (mkF m 86 #[.val (.ref a), .val (.int fr), .val (.int en), .val (.int (scan B en 8 ((scan B en 8 ((scan B en 8 ((scan B en 8 fr) + (2 : Int32))) + (2 : Int32))) + (2 : Int32)))), .val (.int ((scan B en 8 ((scan B en 8 ((scan B en 8 ((scan B en 8 fr) + (2 : Int32))) + (2 : Int32))) + (2 : Int32))) + (2 : Int32))), .val (.int (0 : Int32)), .unset] []))
                      refine Gl.go ?_ (fun t k => XS.iloadN X0.here hx rfl (hb hby d7_86) rfl k)
                      show Gl _ _ _ _ (s₁.setTop (mkF m 87 #[.val (.ref a), .val (.int fr), .val (.int en), .val (.int (scan B en 8 ((scan B en 8 ((scan B en 8 ((scan B en 8 fr) + (2 : Int32))) + (2 : Int32))) + (2 : Int32)))), .val (.int ((scan B en 8 ((scan B en 8 ((scan B en 8 ((scan B en 8 fr) + (2 : Int32))) + (2 : Int32))) + (2 : Int32))) + (2 : Int32))), .val (.int (0 : Int32)), .unset] [(.int (scan B en 8 ((scan B en 8 ((scan B en 8 ((scan B en 8 fr) + (2 : Int32))) + (2 : Int32))) + (2 : Int32))))]))
                      refine Gl.go ?_ (fun t k => XS.istore X0.here hx rfl (hb hby d7_87) rfl (l' := #[.val (.ref a), .val (.int fr), .val (.int en), .val (.int (scan B en 8 ((scan B en 8 ((scan B en 8 ((scan B en 8 fr) + (2 : Int32))) + (2 : Int32))) + (2 : Int32)))), .val (.int ((scan B en 8 ((scan B en 8 ((scan B en 8 ((scan B en 8 fr) + (2 : Int32))) + (2 : Int32))) + (2 : Int32))) + (2 : Int32))), .val (.int (0 : Int32)), .val (.int (scan B en 8 ((scan B en 8 ((scan B en 8 ((scan B en 8 fr) + (2 : Int32))) + (2 : Int32))) + (2 : Int32))))]) rfl k)
                      show Gl _ _ _ _ (s₁.setTop (mkF m 89 #[.val (.ref a), .val (.int fr), .val (.int en), .val (.int (scan B en 8 ((scan B en 8 ((scan B en 8 ((scan B en 8 fr) + (2 : Int32))) + (2 : Int32))) + (2 : Int32)))), .val (.int ((scan B en 8 ((scan B en 8 ((scan B en 8 ((scan B en 8 fr) + (2 : Int32))) + (2 : Int32))) + (2 : Int32))) + (2 : Int32))), .val (.int (0 : Int32)), .val (.int (scan B en 8 ((scan B en 8 ((scan B en 8 ((scan B en 8 fr) + (2 : Int32))) + (2 : Int32))) + (2 : Int32))))] []))
                      refine Gl.go ?_ (fun t k => XS.iloadN X0.here hx rfl (hb hby d7_89) rfl k)
                      show Gl _ _ _ _ (s₁.setTop (mkF m 90 #[.val (.ref a), .val (.int fr), .val (.int en), .val (.int (scan B en 8 ((scan B en 8 ((scan B en 8 ((scan B en 8 fr) + (2 : Int32))) + (2 : Int32))) + (2 : Int32)))), .val (.int ((scan B en 8 ((scan B en 8 ((scan B en 8 ((scan B en 8 fr) + (2 : Int32))) + (2 : Int32))) + (2 : Int32))) + (2 : Int32))), .val (.int (0 : Int32)), .val (.int (scan B en 8 ((scan B en 8 ((scan B en 8 ((scan B en 8 fr) + (2 : Int32))) + (2 : Int32))) + (2 : Int32))))] [(.int (scan B en 8 ((scan B en 8 ((scan B en 8 ((scan B en 8 fr) + (2 : Int32))) + (2 : Int32))) + (2 : Int32))))]))
                      refine Gl.go ?_ (fun t k => XS.ifYes X0.here hx rfl (pc0 := 90) (pc' := 119) rfl (hb hby d7_90) rfl ((if0 _ _).trans (flt (iv_nlt' (k := 0) rfl (Int.le_trans hb98.1 hs100.1))).2.1) (by decide) (by decide) k)
                      show Gl _ _ _ _ (s₁.setTop (mkF m 119 #[.val (.ref a), .val (.int fr), .val (.int en), .val (.int (scan B en 8 ((scan B en 8 ((scan B en 8 ((scan B en 8 fr) + (2 : Int32))) + (2 : Int32))) + (2 : Int32)))), .val (.int ((scan B en 8 ((scan B en 8 ((scan B en 8 ((scan B en 8 fr) + (2 : Int32))) + (2 : Int32))) + (2 : Int32))) + (2 : Int32))), .val (.int (0 : Int32)), .val (.int (scan B en 8 ((scan B en 8 ((scan B en 8 ((scan B en 8 fr) + (2 : Int32))) + (2 : Int32))) + (2 : Int32))))] []))
                      refine Gl.go ?_ (fun t k => XS.iload X0.here hx rfl (hb hby d7_119) rfl k)
                      show Gl _ _ _ _ (s₁.setTop (mkF m 121 #[.val (.ref a), .val (.int fr), .val (.int en), .val (.int (scan B en 8 ((scan B en 8 ((scan B en 8 ((scan B en 8 fr) + (2 : Int32))) + (2 : Int32))) + (2 : Int32)))), .val (.int ((scan B en 8 ((scan B en 8 ((scan B en 8 ((scan B en 8 fr) + (2 : Int32))) + (2 : Int32))) + (2 : Int32))) + (2 : Int32))), .val (.int (0 : Int32)), .val (.int (scan B en 8 ((scan B en 8 ((scan B en 8 ((scan B en 8 fr) + (2 : Int32))) + (2 : Int32))) + (2 : Int32))))] [(.int (scan B en 8 ((scan B en 8 ((scan B en 8 ((scan B en 8 fr) + (2 : Int32))) + (2 : Int32))) + (2 : Int32))))]))
                      obtain ⟨fs, hr, hrun, hended, hW, hsame⟩ := X0.leave (v := some (.int (scan B en 8 ((scan B en 8 ((scan B en 8 ((scan B en 8 fr) + (2 : Int32))) + (2 : Int32))) + (2 : Int32))))) (fun h => by rw [Bd.returns] at h; cases h) (BodyLoose.notSynchronized Bd)
                      exact Gl.mk ⟨_, _, retI X0 hx Bd.returns (hb hby d7_121) hr, hrun, hended, _, _, rfl, ⟨congrArg (fun z => some (Value.int z)) ((if_pos hc70).trans ((if_neg hc71).trans ((if_neg hc74).trans ((if_pos hc80).trans ((if_neg hc81).trans ((if_neg hc84).trans ((if_pos hc90).trans ((if_neg hc91).trans ((if_neg hc94).trans ((if_pos hc101).trans (rfl))))))))))).symm, rfl, e0⟩, ⟨_, rfl⟩, hW, hsame.mono (by decide) (by decide)⟩
                    · refine Gl.go ?_ (fun t k => XS.icmpYes X0.here hx rfl (pc0 := 74) (pc' := 80) rfl (hb hby d7_74) rfl (flt hc101).2.1 (by decide) (by decide) k)
                      show Gl _ _ _ _ (s₁.setTop (mkF m 80 #[.val (.ref a), .val (.int fr), .val (.int en), .val (.int (scan B en 8 ((scan B en 8 ((scan B en 8 fr) + (2 : Int32))) + (2 : Int32)))), .val (.int (scan B en 8 ((scan B en 8 ((scan B en 8 ((scan B en 8 fr) + (2 : Int32))) + (2 : Int32))) + (2 : Int32)))), .val (.int (0 : Int32)), .unset] []))
                      refine Gl.go ?_ (fun t k => XS.iinc X0.here hx rfl (hb hby d7_80) rfl (l' := #[.val (.ref a), .val (.int fr), .val (.int en), .val (.int (scan B en 8 ((scan B en 8 ((scan B en 8 fr) + (2 : Int32))) + (2 : Int32)))), .val (.int ((scan B en 8 ((scan B en 8 ((scan B en 8 ((scan B en 8 fr) + (2 : Int32))) + (2 : Int32))) + (2 : Int32))) + (2 : Int32))), .val (.int (0 : Int32)), .unset]) rfl k)
                      show Gl _ _ _ _ (s₁.setTop (mkF m 83 #[.val (.ref a), .val (.int fr), .val (.int en), .val (.int (scan B en 8 ((scan B en 8 ((scan B en 8 fr) + (2 : Int32))) + (2 : Int32)))), .val (.int ((scan B en 8 ((scan B en 8 ((scan B en 8 ((scan B en 8 fr) + (2 : Int32))) + (2 : Int32))) + (2 : Int32))) + (2 : Int32))), .val (.int (0 : Int32)), .unset] []))
                      have hu104 := own_up2 (c := 12) hb98 hs100 (by decide) (by decide)
                      have hb105 : 0 ≤ (((scan B en 8 ((scan B en 8 ((scan B en 8 ((scan B en 8 fr) + (2 : Int32))) + (2 : Int32))) + (2 : Int32))) + (2 : Int32))).toInt ∧ (((scan B en 8 ((scan B en 8 ((scan B en 8 ((scan B en 8 fr) + (2 : Int32))) + (2 : Int32))) + (2 : Int32))) + (2 : Int32))).toInt ≤ 14 := own_w3 hu104
                      refine Gl.go ?_ (fun t k => XS.goto X0.here hx rfl (pc0 := 83) (pc' := 8) rfl (hb hby d7_83) (by decide) (by decide) k)
                      show Gl _ _ _ _ (s₁.setTop (mkF m 8 #[.val (.ref a), .val (.int fr), .val (.int en), .val (.int (scan B en 8 ((scan B en 8 ((scan B en 8 fr) + (2 : Int32))) + (2 : Int32)))), .val (.int ((scan B en 8 ((scan B en 8 ((scan B en 8 ((scan B en 8 fr) + (2 : Int32))) + (2 : Int32))) + (2 : Int32))) + (2 : Int32))), .val (.int (0 : Int32)), .unset] []))
                      refine Gl.go ?_ (fun t k => XS.iload X0.here hx rfl (hb hby d7_8) rfl k)
                      show Gl _ _ _ _ (s₁.setTop (mkF m 10 #[.val (.ref a), .val (.int fr), .val (.int en), .val (.int (scan B en 8 ((scan B en 8 ((scan B en 8 fr) + (2 : Int32))) + (2 : Int32)))), .val (.int ((scan B en 8 ((scan B en 8 ((scan B en 8 ((scan B en 8 fr) + (2 : Int32))) + (2 : Int32))) + (2 : Int32))) + (2 : Int32))), .val (.int (0 : Int32)), .unset] [(.int (0 : Int32))]))
                      refine Gl.go ?_ (fun t k => XS.ifYes X0.here hx rfl (pc0 := 10) (pc' := 86) rfl (hb hby d7_10) rfl ((if0 _ _).trans (teq (by decide : (0 : Int32) = (0 : Int32))).1) (by decide) (by decide) k)
                      show Gl _ _ _ _ (s₁.setTop (mkF m 86 #[.val (.ref a), .val (.int fr), .val (.int en), .val (.int (scan B en 8 ((scan B en 8 ((scan B en 8 fr) + (2 : Int32))) + (2 : Int32)))), .val (.int ((scan B en 8 ((scan B en 8 ((scan B en 8 ((scan B en 8 fr) + (2 : Int32))) + (2 : Int32))) + (2 : Int32))) + (2 : Int32))), .val (.int (0 : Int32)), .unset] []))
                      refine Gl.go ?_ (fun t k => XS.iloadN X0.here hx rfl (hb hby d7_86) rfl k)
                      show Gl _ _ _ _ (s₁.setTop (mkF m 87 #[.val (.ref a), .val (.int fr), .val (.int en), .val (.int (scan B en 8 ((scan B en 8 ((scan B en 8 fr) + (2 : Int32))) + (2 : Int32)))), .val (.int ((scan B en 8 ((scan B en 8 ((scan B en 8 ((scan B en 8 fr) + (2 : Int32))) + (2 : Int32))) + (2 : Int32))) + (2 : Int32))), .val (.int (0 : Int32)), .unset] [(.int (scan B en 8 ((scan B en 8 ((scan B en 8 fr) + (2 : Int32))) + (2 : Int32))))]))
                      refine Gl.go ?_ (fun t k => XS.istore X0.here hx rfl (hb hby d7_87) rfl (l' := #[.val (.ref a), .val (.int fr), .val (.int en), .val (.int (scan B en 8 ((scan B en 8 ((scan B en 8 fr) + (2 : Int32))) + (2 : Int32)))), .val (.int ((scan B en 8 ((scan B en 8 ((scan B en 8 ((scan B en 8 fr) + (2 : Int32))) + (2 : Int32))) + (2 : Int32))) + (2 : Int32))), .val (.int (0 : Int32)), .val (.int (scan B en 8 ((scan B en 8 ((scan B en 8 fr) + (2 : Int32))) + (2 : Int32))))]) rfl k)
                      show Gl _ _ _ _ (s₁.setTop (mkF m 89 #[.val (.ref a), .val (.int fr), .val (.int en), .val (.int (scan B en 8 ((scan B en 8 ((scan B en 8 fr) + (2 : Int32))) + (2 : Int32)))), .val (.int ((scan B en 8 ((scan B en 8 ((scan B en 8 ((scan B en 8 fr) + (2 : Int32))) + (2 : Int32))) + (2 : Int32))) + (2 : Int32))), .val (.int (0 : Int32)), .val (.int (scan B en 8 ((scan B en 8 ((scan B en 8 fr) + (2 : Int32))) + (2 : Int32))))] []))
                      refine Gl.go ?_ (fun t k => XS.iloadN X0.here hx rfl (hb hby d7_89) rfl k)
                      show Gl _ _ _ _ (s₁.setTop (mkF m 90 #[.val (.ref a), .val (.int fr), .val (.int en), .val (.int (scan B en 8 ((scan B en 8 ((scan B en 8 fr) + (2 : Int32))) + (2 : Int32)))), .val (.int ((scan B en 8 ((scan B en 8 ((scan B en 8 ((scan B en 8 fr) + (2 : Int32))) + (2 : Int32))) + (2 : Int32))) + (2 : Int32))), .val (.int (0 : Int32)), .val (.int (scan B en 8 ((scan B en 8 ((scan B en 8 fr) + (2 : Int32))) + (2 : Int32))))] [(.int (scan B en 8 ((scan B en 8 ((scan B en 8 fr) + (2 : Int32))) + (2 : Int32))))]))
                      refine Gl.go ?_ (fun t k => XS.ifYes X0.here hx rfl (pc0 := 90) (pc' := 119) rfl (hb hby d7_90) rfl ((if0 _ _).trans (flt (iv_nlt' (k := 0) rfl (Int.le_trans hb88.1 hs89.1))).2.1) (by decide) (by decide) k)
                      show Gl _ _ _ _ (s₁.setTop (mkF m 119 #[.val (.ref a), .val (.int fr), .val (.int en), .val (.int (scan B en 8 ((scan B en 8 ((scan B en 8 fr) + (2 : Int32))) + (2 : Int32)))), .val (.int ((scan B en 8 ((scan B en 8 ((scan B en 8 ((scan B en 8 fr) + (2 : Int32))) + (2 : Int32))) + (2 : Int32))) + (2 : Int32))), .val (.int (0 : Int32)), .val (.int (scan B en 8 ((scan B en 8 ((scan B en 8 fr) + (2 : Int32))) + (2 : Int32))))] []))
                      refine Gl.go ?_ (fun t k => XS.iload X0.here hx rfl (hb hby d7_119) rfl k)
                      show Gl _ _ _ _ (s₁.setTop (mkF m 121 #[.val (.ref a), .val (.int fr), .val (.int en), .val (.int (scan B en 8 ((scan B en 8 ((scan B en 8 fr) + (2 : Int32))) + (2 : Int32)))), .val (.int ((scan B en 8 ((scan B en 8 ((scan B en 8 ((scan B en 8 fr) + (2 : Int32))) + (2 : Int32))) + (2 : Int32))) + (2 : Int32))), .val (.int (0 : Int32)), .val (.int (scan B en 8 ((scan B en 8 ((scan B en 8 fr) + (2 : Int32))) + (2 : Int32))))] [(.int (scan B en 8 ((scan B en 8 ((scan B en 8 fr) + (2 : Int32))) + (2 : Int32))))]))
                      obtain ⟨fs, hr, hrun, hended, hW, hsame⟩ := X0.leave (v := some (.int (scan B en 8 ((scan B en 8 ((scan B en 8 fr) + (2 : Int32))) + (2 : Int32))))) (fun h => by rw [Bd.returns] at h; cases h) (BodyLoose.notSynchronized Bd)
                      exact Gl.mk ⟨_, _, retI X0 hx Bd.returns (hb hby d7_121) hr, hrun, hended, _, _, rfl, ⟨congrArg (fun z => some (Value.int z)) ((if_pos hc70).trans ((if_neg hc71).trans ((if_neg hc74).trans ((if_pos hc80).trans ((if_neg hc81).trans ((if_neg hc84).trans ((if_pos hc90).trans ((if_neg hc91).trans ((if_neg hc94).trans ((if_neg hc101).trans (rfl))))))))))).symm, rfl, e0⟩, ⟨_, rfl⟩, hW, hsame.mono (by decide) (by decide)⟩
              · refine Gl.go ?_ (fun t k => XS.icmpYes X0.here hx rfl (pc0 := 39) (pc' := 68) rfl (hb hby d7_39) rfl (flt hc90).2.1 (by decide) (by decide) k)
                show Gl _ _ _ _ (s₁.setTop (mkF m 68 #[.val (.ref a), .val (.int fr), .val (.int en), .val (.int (scan B en 8 ((scan B en 8 fr) + (2 : Int32)))), .val (.int (scan B en 8 ((scan B en 8 ((scan B en 8 fr) + (2 : Int32))) + (2 : Int32)))), .val (.int (1 : Int32)), .unset] []))
                refine Gl.go ?_ (fun t k => XS.iconst X0.here hx rfl (hb hby d7_68) k)
                show Gl _ _ _ _ (s₁.setTop (mkF m 69 #[.val (.ref a), .val (.int fr), .val (.int en), .val (.int (scan B en 8 ((scan B en 8 fr) + (2 : Int32)))), .val (.int (scan B en 8 ((scan B en 8 ((scan B en 8 fr) + (2 : Int32))) + (2 : Int32)))), .val (.int (1 : Int32)), .unset] [(.int (0 : Int32))]))
                refine Gl.go ?_ (fun t k => XS.istore X0.here hx rfl (hb hby d7_69) rfl (l' := #[.val (.ref a), .val (.int fr), .val (.int en), .val (.int (scan B en 8 ((scan B en 8 fr) + (2 : Int32)))), .val (.int (scan B en 8 ((scan B en 8 ((scan B en 8 fr) + (2 : Int32))) + (2 : Int32)))), .val (.int (0 : Int32)), .unset]) rfl k)
                show Gl _ _ _ _ (s₁.setTop (mkF m 71 #[.val (.ref a), .val (.int fr), .val (.int en), .val (.int (scan B en 8 ((scan B en 8 fr) + (2 : Int32)))), .val (.int (scan B en 8 ((scan B en 8 ((scan B en 8 fr) + (2 : Int32))) + (2 : Int32)))), .val (.int (0 : Int32)), .unset] []))
                refine Gl.go ?_ (fun t k => XS.iload X0.here hx rfl (hb hby d7_71) rfl k)
                show Gl _ _ _ _ (s₁.setTop (mkF m 73 #[.val (.ref a), .val (.int fr), .val (.int en), .val (.int (scan B en 8 ((scan B en 8 fr) + (2 : Int32)))), .val (.int (scan B en 8 ((scan B en 8 ((scan B en 8 fr) + (2 : Int32))) + (2 : Int32)))), .val (.int (0 : Int32)), .unset] [(.int (scan B en 8 ((scan B en 8 ((scan B en 8 fr) + (2 : Int32))) + (2 : Int32))))]))
                refine Gl.go ?_ (fun t k => XS.iloadN X0.here hx rfl (hb hby d7_73) rfl k)
                show Gl _ _ _ _ (s₁.setTop (mkF m 74 #[.val (.ref a), .val (.int fr), .val (.int en), .val (.int (scan B en 8 ((scan B en 8 fr) + (2 : Int32)))), .val (.int (scan B en 8 ((scan B en 8 ((scan B en 8 fr) + (2 : Int32))) + (2 : Int32)))), .val (.int (0 : Int32)), .unset] [(.int en), (.int (scan B en 8 ((scan B en 8 ((scan B en 8 fr) + (2 : Int32))) + (2 : Int32))))]))
                by_cases hc106 : (scan B en 8 ((scan B en 8 ((scan B en 8 fr) + (2 : Int32))) + (2 : Int32))) < en
                · refine Gl.go ?_ (fun t k => XS.icmpNo X0.here hx rfl (hb hby d7_74) rfl (tlt hc106).2.1 k)
                  show Gl _ _ _ _ (s₁.setTop (mkF m 77 #[.val (.ref a), .val (.int fr), .val (.int en), .val (.int (scan B en 8 ((scan B en 8 fr) + (2 : Int32)))), .val (.int (scan B en 8 ((scan B en 8 ((scan B en 8 fr) + (2 : Int32))) + (2 : Int32)))), .val (.int (0 : Int32)), .unset] []))
                  refine Gl.go ?_ (fun t k => XS.iload X0.here hx rfl (hb hby d7_77) rfl k)
                  show Gl _ _ _ _ (s₁.setTop (mkF m 79 #[.val (.ref a), .val (.int fr), .val (.int en), .val (.int (scan B en 8 ((scan B en 8 fr) + (2 : Int32)))), .val (.int (scan B en 8 ((scan B en 8 ((scan B en 8 fr) + (2 : Int32))) + (2 : Int32)))), .val (.int (0 : Int32)), .unset] [(.int (scan B en 8 ((scan B en 8 ((scan B en 8 fr) + (2 : Int32))) + (2 : Int32))))]))
                  refine Gl.go ?_ (fun t k => XS.istoreN X0.here hx rfl (hb hby d7_79) rfl (l' := #[.val (.ref a), .val (.int fr), .val (.int en), .val (.int (scan B en 8 ((scan B en 8 ((scan B en 8 fr) + (2 : Int32))) + (2 : Int32)))), .val (.int (scan B en 8 ((scan B en 8 ((scan B en 8 fr) + (2 : Int32))) + (2 : Int32)))), .val (.int (0 : Int32)), .unset]) rfl k)
                  show Gl _ _ _ _ (s₁.setTop (mkF m 80 #[.val (.ref a), .val (.int fr), .val (.int en), .val (.int (scan B en 8 ((scan B en 8 ((scan B en 8 fr) + (2 : Int32))) + (2 : Int32)))), .val (.int (scan B en 8 ((scan B en 8 ((scan B en 8 fr) + (2 : Int32))) + (2 : Int32)))), .val (.int (0 : Int32)), .unset] []))
                  refine Gl.go ?_ (fun t k => XS.iinc X0.here hx rfl (hb hby d7_80) rfl (l' := #[.val (.ref a), .val (.int fr), .val (.int en), .val (.int (scan B en 8 ((scan B en 8 ((scan B en 8 fr) + (2 : Int32))) + (2 : Int32)))), .val (.int ((scan B en 8 ((scan B en 8 ((scan B en 8 fr) + (2 : Int32))) + (2 : Int32))) + (2 : Int32))), .val (.int (0 : Int32)), .unset]) rfl k)
                  show Gl _ _ _ _ (s₁.setTop (mkF m 83 #[.val (.ref a), .val (.int fr), .val (.int en), .val (.int (scan B en 8 ((scan B en 8 ((scan B en 8 fr) + (2 : Int32))) + (2 : Int32)))), .val (.int ((scan B en 8 ((scan B en 8 ((scan B en 8 fr) + (2 : Int32))) + (2 : Int32))) + (2 : Int32))), .val (.int (0 : Int32)), .unset] []))
                  have hu107 := own_up2 (c := 10) hb88 hs89 (by decide) (by decide)
                  have hb108 : 0 ≤ (((scan B en 8 ((scan B en 8 ((scan B en 8 fr) + (2 : Int32))) + (2 : Int32))) + (2 : Int32))).toInt ∧ (((scan B en 8 ((scan B en 8 ((scan B en 8 fr) + (2 : Int32))) + (2 : Int32))) + (2 : Int32))).toInt ≤ 12 := own_w3 hu107
                  refine Gl.go ?_ (fun t k => XS.goto X0.here hx rfl (pc0 := 83) (pc' := 8) rfl (hb hby d7_83) (by decide) (by decide) k)
                  show Gl _ _ _ _ (s₁.setTop (mkF m 8 #[.val (.ref a), .val (.int fr), .val (.int en), .val (.int (scan B en 8 ((scan B en 8 ((scan B en 8 fr) + (2 : Int32))) + (2 : Int32)))), .val (.int ((scan B en 8 ((scan B en 8 ((scan B en 8 fr) + (2 : Int32))) + (2 : Int32))) + (2 : Int32))), .val (.int (0 : Int32)), .unset] []))
                  refine Gl.go ?_ (fun t k => XS.iload X0.here hx rfl (hb hby d7_8) rfl k)
                  show Gl _ _ _ _ (s₁.setTop (mkF m 10 #[.val (.ref a), .val (.int fr), .val (.int en), .val (.int (scan B en 8 ((scan B en 8 ((scan B en 8 fr) + (2 : Int32))) + (2 : Int32)))), .val (.int ((scan B en 8 ((scan B en 8 ((scan B en 8 fr) + (2 : Int32))) + (2 : Int32))) + (2 : Int32))), .val (.int (0 : Int32)), .unset] [(.int (0 : Int32))]))
                  refine Gl.go ?_ (fun t k => XS.ifYes X0.here hx rfl (pc0 := 10) (pc' := 86) rfl (hb hby d7_10) rfl ((if0 _ _).trans (teq (by decide : (0 : Int32) = (0 : Int32))).1) (by decide) (by decide) k)
                  show Gl _ _ _ _ (s₁.setTop (mkF m 86 #[.val (.ref a), .val (.int fr), .val (.int en), .val (.int (scan B en 8 ((scan B en 8 ((scan B en 8 fr) + (2 : Int32))) + (2 : Int32)))), .val (.int ((scan B en 8 ((scan B en 8 ((scan B en 8 fr) + (2 : Int32))) + (2 : Int32))) + (2 : Int32))), .val (.int (0 : Int32)), .unset] []))
                  refine Gl.go ?_ (fun t k => XS.iloadN X0.here hx rfl (hb hby d7_86) rfl k)
                  show Gl _ _ _ _ (s₁.setTop (mkF m 87 #[.val (.ref a), .val (.int fr), .val (.int en), .val (.int (scan B en 8 ((scan B en 8 ((scan B en 8 fr) + (2 : Int32))) + (2 : Int32)))), .val (.int ((scan B en 8 ((scan B en 8 ((scan B en 8 fr) + (2 : Int32))) + (2 : Int32))) + (2 : Int32))), .val (.int (0 : Int32)), .unset] [(.int (scan B en 8 ((scan B en 8 ((scan B en 8 fr) + (2 : Int32))) + (2 : Int32))))]))
                  refine Gl.go ?_ (fun t k => XS.istore X0.here hx rfl (hb hby d7_87) rfl (l' := #[.val (.ref a), .val (.int fr), .val (.int en), .val (.int (scan B en 8 ((scan B en 8 ((scan B en 8 fr) + (2 : Int32))) + (2 : Int32)))), .val (.int ((scan B en 8 ((scan B en 8 ((scan B en 8 fr) + (2 : Int32))) + (2 : Int32))) + (2 : Int32))), .val (.int (0 : Int32)), .val (.int (scan B en 8 ((scan B en 8 ((scan B en 8 fr) + (2 : Int32))) + (2 : Int32))))]) rfl k)
                  show Gl _ _ _ _ (s₁.setTop (mkF m 89 #[.val (.ref a), .val (.int fr), .val (.int en), .val (.int (scan B en 8 ((scan B en 8 ((scan B en 8 fr) + (2 : Int32))) + (2 : Int32)))), .val (.int ((scan B en 8 ((scan B en 8 ((scan B en 8 fr) + (2 : Int32))) + (2 : Int32))) + (2 : Int32))), .val (.int (0 : Int32)), .val (.int (scan B en 8 ((scan B en 8 ((scan B en 8 fr) + (2 : Int32))) + (2 : Int32))))] []))
                  refine Gl.go ?_ (fun t k => XS.iloadN X0.here hx rfl (hb hby d7_89) rfl k)
                  show Gl _ _ _ _ (s₁.setTop (mkF m 90 #[.val (.ref a), .val (.int fr), .val (.int en), .val (.int (scan B en 8 ((scan B en 8 ((scan B en 8 fr) + (2 : Int32))) + (2 : Int32)))), .val (.int ((scan B en 8 ((scan B en 8 ((scan B en 8 fr) + (2 : Int32))) + (2 : Int32))) + (2 : Int32))), .val (.int (0 : Int32)), .val (.int (scan B en 8 ((scan B en 8 ((scan B en 8 fr) + (2 : Int32))) + (2 : Int32))))] [(.int (scan B en 8 ((scan B en 8 ((scan B en 8 fr) + (2 : Int32))) + (2 : Int32))))]))
                  refine Gl.go ?_ (fun t k => XS.ifYes X0.here hx rfl (pc0 := 90) (pc' := 119) rfl (hb hby d7_90) rfl ((if0 _ _).trans (flt (iv_nlt' (k := 0) rfl (Int.le_trans hb88.1 hs89.1))).2.1) (by decide) (by decide) k)
                  show Gl _ _ _ _ (s₁.setTop (mkF m 119 #[.val (.ref a), .val (.int fr), .val (.int en), .val (.int (scan B en 8 ((scan B en 8 ((scan B en 8 fr) + (2 : Int32))) + (2 : Int32)))), .val (.int ((scan B en 8 ((scan B en 8 ((scan B en 8 fr) + (2 : Int32))) + (2 : Int32))) + (2 : Int32))), .val (.int (0 : Int32)), .val (.int (scan B en 8 ((scan B en 8 ((scan B en 8 fr) + (2 : Int32))) + (2 : Int32))))] []))
                  refine Gl.go ?_ (fun t k => XS.iload X0.here hx rfl (hb hby d7_119) rfl k)
                  show Gl _ _ _ _ (s₁.setTop (mkF m 121 #[.val (.ref a), .val (.int fr), .val (.int en), .val (.int (scan B en 8 ((scan B en 8 ((scan B en 8 fr) + (2 : Int32))) + (2 : Int32)))), .val (.int ((scan B en 8 ((scan B en 8 ((scan B en 8 fr) + (2 : Int32))) + (2 : Int32))) + (2 : Int32))), .val (.int (0 : Int32)), .val (.int (scan B en 8 ((scan B en 8 ((scan B en 8 fr) + (2 : Int32))) + (2 : Int32))))] [(.int (scan B en 8 ((scan B en 8 ((scan B en 8 fr) + (2 : Int32))) + (2 : Int32))))]))
                  obtain ⟨fs, hr, hrun, hended, hW, hsame⟩ := X0.leave (v := some (.int (scan B en 8 ((scan B en 8 ((scan B en 8 fr) + (2 : Int32))) + (2 : Int32))))) (fun h => by rw [Bd.returns] at h; cases h) (BodyLoose.notSynchronized Bd)
                  exact Gl.mk ⟨_, _, retI X0 hx Bd.returns (hb hby d7_121) hr, hrun, hended, _, _, rfl, ⟨congrArg (fun z => some (Value.int z)) ((if_pos hc70).trans ((if_neg hc71).trans ((if_neg hc74).trans ((if_pos hc80).trans ((if_neg hc81).trans ((if_neg hc84).trans ((if_neg hc90).trans ((if_pos hc106).trans (rfl))))))))).symm, rfl, e0⟩, ⟨_, rfl⟩, hW, hsame.mono (by decide) (by decide)⟩
                · refine Gl.go ?_ (fun t k => XS.icmpYes X0.here hx rfl (pc0 := 74) (pc' := 80) rfl (hb hby d7_74) rfl (flt hc106).2.1 (by decide) (by decide) k)
                  show Gl _ _ _ _ (s₁.setTop (mkF m 80 #[.val (.ref a), .val (.int fr), .val (.int en), .val (.int (scan B en 8 ((scan B en 8 fr) + (2 : Int32)))), .val (.int (scan B en 8 ((scan B en 8 ((scan B en 8 fr) + (2 : Int32))) + (2 : Int32)))), .val (.int (0 : Int32)), .unset] []))
                  refine Gl.go ?_ (fun t k => XS.iinc X0.here hx rfl (hb hby d7_80) rfl (l' := #[.val (.ref a), .val (.int fr), .val (.int en), .val (.int (scan B en 8 ((scan B en 8 fr) + (2 : Int32)))), .val (.int ((scan B en 8 ((scan B en 8 ((scan B en 8 fr) + (2 : Int32))) + (2 : Int32))) + (2 : Int32))), .val (.int (0 : Int32)), .unset]) rfl k)
                  show Gl _ _ _ _ (s₁.setTop (mkF m 83 #[.val (.ref a), .val (.int fr), .val (.int en), .val (.int (scan B en 8 ((scan B en 8 fr) + (2 : Int32)))), .val (.int ((scan B en 8 ((scan B en 8 ((scan B en 8 fr) + (2 : Int32))) + (2 : Int32))) + (2 : Int32))), .val (.int (0 : Int32)), .unset] []))
                  have hu109 := own_up2 (c := 10) hb88 hs89 (by decide) (by decide)
                  have hb110 : 0 ≤ (((scan B en 8 ((scan B en 8 ((scan B en 8 fr) + (2 : Int32))) + (2 : Int32))) + (2 : Int32))).toInt ∧ (((scan B en 8 ((scan B en 8 ((scan B en 8 fr) + (2 : Int32))) + (2 : Int32))) + (2 : Int32))).toInt ≤ 12 := own_w3 hu109
                  refine Gl.go ?_ (fun t k => XS.goto X0.here hx rfl (pc0 := 83) (pc' := 8) rfl (hb hby d7_83) (by decide) (by decide) k)
                  show Gl _ _ _ _ (s₁.setTop (mkF m 8 #[.val (.ref a), .val (.int fr), .val (.int en), .val (.int (scan B en 8 ((scan B en 8 fr) + (2 : Int32)))), .val (.int ((scan B en 8 ((scan B en 8 ((scan B en 8 fr) + (2 : Int32))) + (2 : Int32))) + (2 : Int32))), .val (.int (0 : Int32)), .unset] []))
                  refine Gl.go ?_ (fun t k => XS.iload X0.here hx rfl (hb hby d7_8) rfl k)
                  show Gl _ _ _ _ (s₁.setTop (mkF m 10 #[.val (.ref a), .val (.int fr), .val (.int en), .val (.int (scan B en 8 ((scan B en 8 fr) + (2 : Int32)))), .val (.int ((scan B en 8 ((scan B en 8 ((scan B en 8 fr) + (2 : Int32))) + (2 : Int32))) + (2 : Int32))), .val (.int (0 : Int32)), .unset] [(.int (0 : Int32))]))
                  refine Gl.go ?_ (fun t k => XS.ifYes X0.here hx rfl (pc0 := 10) (pc' := 86) rfl (hb hby d7_10) rfl ((if0 _ _).trans (teq (by decide : (0 : Int32) = (0 : Int32))).1) (by decide) (by decide) k)
                  show Gl _ _ _ _ (s₁.setTop (mkF m 86 #[.val (.ref a), .val (.int fr), .val (.int en), .val (.int (scan B en 8 ((scan B en 8 fr) + (2 : Int32)))), .val (.int ((scan B en 8 ((scan B en 8 ((scan B en 8 fr) + (2 : Int32))) + (2 : Int32))) + (2 : Int32))), .val (.int (0 : Int32)), .unset] []))
                  refine Gl.go ?_ (fun t k => XS.iloadN X0.here hx rfl (hb hby d7_86) rfl k)
                  show Gl _ _ _ _ (s₁.setTop (mkF m 87 #[.val (.ref a), .val (.int fr), .val (.int en), .val (.int (scan B en 8 ((scan B en 8 fr) + (2 : Int32)))), .val (.int ((scan B en 8 ((scan B en 8 ((scan B en 8 fr) + (2 : Int32))) + (2 : Int32))) + (2 : Int32))), .val (.int (0 : Int32)), .unset] [(.int (scan B en 8 ((scan B en 8 fr) + (2 : Int32))))]))
                  refine Gl.go ?_ (fun t k => XS.istore X0.here hx rfl (hb hby d7_87) rfl (l' := #[.val (.ref a), .val (.int fr), .val (.int en), .val (.int (scan B en 8 ((scan B en 8 fr) + (2 : Int32)))), .val (.int ((scan B en 8 ((scan B en 8 ((scan B en 8 fr) + (2 : Int32))) + (2 : Int32))) + (2 : Int32))), .val (.int (0 : Int32)), .val (.int (scan B en 8 ((scan B en 8 fr) + (2 : Int32))))]) rfl k)
                  show Gl _ _ _ _ (s₁.setTop (mkF m 89 #[.val (.ref a), .val (.int fr), .val (.int en), .val (.int (scan B en 8 ((scan B en 8 fr) + (2 : Int32)))), .val (.int ((scan B en 8 ((scan B en 8 ((scan B en 8 fr) + (2 : Int32))) + (2 : Int32))) + (2 : Int32))), .val (.int (0 : Int32)), .val (.int (scan B en 8 ((scan B en 8 fr) + (2 : Int32))))] []))
                  refine Gl.go ?_ (fun t k => XS.iloadN X0.here hx rfl (hb hby d7_89) rfl k)
                  show Gl _ _ _ _ (s₁.setTop (mkF m 90 #[.val (.ref a), .val (.int fr), .val (.int en), .val (.int (scan B en 8 ((scan B en 8 fr) + (2 : Int32)))), .val (.int ((scan B en 8 ((scan B en 8 ((scan B en 8 fr) + (2 : Int32))) + (2 : Int32))) + (2 : Int32))), .val (.int (0 : Int32)), .val (.int (scan B en 8 ((scan B en 8 fr) + (2 : Int32))))] [(.int (scan B en 8 ((scan B en 8 fr) + (2 : Int32))))]))
                  refine Gl.go ?_ (fun t k => XS.ifYes X0.here hx rfl (pc0 := 90) (pc' := 119) rfl (hb hby d7_90) rfl ((if0 _ _).trans (flt (iv_nlt' (k := 0) rfl (Int.le_trans hb78.1 hs79.1))).2.1) (by decide) (by decide) k)
                  show Gl _ _ _ _ (s₁.setTop (mkF m 119 #[.val (.ref a), .val (.int fr), .val (.int en), .val (.int (scan B en 8 ((scan B en 8 fr) + (2 : Int32)))), .val (.int ((scan B en 8 ((scan B en 8 ((scan B en 8 fr) + (2 : Int32))) + (2 : Int32))) + (2 : Int32))), .val (.int (0 : Int32)), .val (.int (scan B en 8 ((scan B en 8 fr) + (2 : Int32))))] []))
                  refine Gl.go ?_ (fun t k => XS.iload X0.here hx rfl (hb hby d7_119) rfl k)
                  show Gl _ _ _ _ (s₁.setTop (mkF m 121 #[.val (.ref a), .val (.int fr), .val (.int en), .val (.int (scan B en 8 ((scan B en 8 fr) + (2 : Int32)))), .val (.int ((scan B en 8 ((scan B en 8 ((scan B en 8 fr) + (2 : Int32))) + (2 : Int32))) + (2 : Int32))), .val (.int (0 : Int32)), .val (.int (scan B en 8 ((scan B en 8 fr) + (2 : Int32))))] [(.int (scan B en 8 ((scan B en 8 fr) + (2 : Int32))))]))
                  obtain ⟨fs, hr, hrun, hended, hW, hsame⟩ := X0.leave (v := some (.int (scan B en 8 ((scan B en 8 fr) + (2 : Int32))))) (fun h => by rw [Bd.returns] at h; cases h) (BodyLoose.notSynchronized Bd)
                  exact Gl.mk ⟨_, _, retI X0 hx Bd.returns (hb hby d7_121) hr, hrun, hended, _, _, rfl, ⟨congrArg (fun z => some (Value.int z)) ((if_pos hc70).trans ((if_neg hc71).trans ((if_neg hc74).trans ((if_pos hc80).trans ((if_neg hc81).trans ((if_neg hc84).trans ((if_neg hc90).trans ((if_neg hc106).trans (rfl))))))))).symm, rfl, e0⟩, ⟨_, rfl⟩, hW, hsame.mono (by decide) (by decide)⟩
        · refine Gl.go ?_ (fun t k => XS.icmpYes X0.here hx rfl (pc0 := 39) (pc' := 68) rfl (hb hby d7_39) rfl (flt hc80).2.1 (by decide) (by decide) k)
          show Gl _ _ _ _ (s₁.setTop (mkF m 68 #[.val (.ref a), .val (.int fr), .val (.int en), .val (.int (scan B en 8 fr)), .val (.int (scan B en 8 ((scan B en 8 fr) + (2 : Int32)))), .val (.int (1 : Int32)), .unset] []))
          refine Gl.go ?_ (fun t k => XS.iconst X0.here hx rfl (hb hby d7_68) k)
          show Gl _ _ _ _ (s₁.setTop (mkF m 69 #[.val (.ref a), .val (.int fr), .val (.int en), .val (.int (scan B en 8 fr)), .val (.int (scan B en 8 ((scan B en 8 fr) + (2 : Int32)))), .val (.int (1 : Int32)), .unset] [(.int (0 : Int32))]))
          refine Gl.go ?_ (fun t k => XS.istore X0.here hx rfl (hb hby d7_69) rfl (l' := #[.val (.ref a), .val (.int fr), .val (.int en), .val (.int (scan B en 8 fr)), .val (.int (scan B en 8 ((scan B en 8 fr) + (2 : Int32)))), .val (.int (0 : Int32)), .unset]) rfl k)
          show Gl _ _ _ _ (s₁.setTop (mkF m 71 #[.val (.ref a), .val (.int fr), .val (.int en), .val (.int (scan B en 8 fr)), .val (.int (scan B en 8 ((scan B en 8 fr) + (2 : Int32)))), .val (.int (0 : Int32)), .unset] []))
          refine Gl.go ?_ (fun t k => XS.iload X0.here hx rfl (hb hby d7_71) rfl k)
          show Gl _ _ _ _ (s₁.setTop (mkF m 73 #[.val (.ref a), .val (.int fr), .val (.int en), .val (.int (scan B en 8 fr)), .val (.int (scan B en 8 ((scan B en 8 fr) + (2 : Int32)))), .val (.int (0 : Int32)), .unset] [(.int (scan B en 8 ((scan B en 8 fr) + (2 : Int32))))]))
          refine Gl.go ?_ (fun t k => XS.iloadN X0.here hx rfl (hb hby d7_73) rfl k)
          show Gl _ _ _ _ (s₁.setTop (mkF m 74 #[.val (.ref a), .val (.int fr), .val (.int en), .val (.int (scan B en 8 fr)), .val (.int (scan B en 8 ((scan B en 8 fr) + (2 : Int32)))), .val (.int (0 : Int32)), .unset] [(.int en), (.int (scan B en 8 ((scan B en 8 fr) + (2 : Int32))))]))
          by_cases hc111 : (scan B en 8 ((scan B en 8 fr) + (2 : Int32))) < en
          · refine Gl.go ?_ (fun t k => XS.icmpNo X0.here hx rfl (hb hby d7_74) rfl (tlt hc111).2.1 k)
            show Gl _ _ _ _ (s₁.setTop (mkF m 77 #[.val (.ref a), .val (.int fr), .val (.int en), .val (.int (scan B en 8 fr)), .val (.int (scan B en 8 ((scan B en 8 fr) + (2 : Int32)))), .val (.int (0 : Int32)), .unset] []))
            refine Gl.go ?_ (fun t k => XS.iload X0.here hx rfl (hb hby d7_77) rfl k)
            show Gl _ _ _ _ (s₁.setTop (mkF m 79 #[.val (.ref a), .val (.int fr), .val (.int en), .val (.int (scan B en 8 fr)), .val (.int (scan B en 8 ((scan B en 8 fr) + (2 : Int32)))), .val (.int (0 : Int32)), .unset] [(.int (scan B en 8 ((scan B en 8 fr) + (2 : Int32))))]))
            refine Gl.go ?_ (fun t k => XS.istoreN X0.here hx rfl (hb hby d7_79) rfl (l' := #[.val (.ref a), .val (.int fr), .val (.int en), .val (.int (scan B en 8 ((scan B en 8 fr) + (2 : Int32)))), .val (.int (scan B en 8 ((scan B en 8 fr) + (2 : Int32)))), .val (.int (0 : Int32)), .unset]) rfl k)
            show Gl _ _ _ _ (s₁.setTop (mkF m 80 #[.val (.ref a), .val (.int fr), .val (.int en), .val (.int (scan B en 8 ((scan B en 8 fr) + (2 : Int32)))), .val (.int (scan B en 8 ((scan B en 8 fr) + (2 : Int32)))), .val (.int (0 : Int32)), .unset] []))
            refine Gl.go ?_ (fun t k => XS.iinc X0.here hx rfl (hb hby d7_80) rfl (l' := #[.val (.ref a), .val (.int fr), .val (.int en), .val (.int (scan B en 8 ((scan B en 8 fr) + (2 : Int32)))), .val (.int ((scan B en 8 ((scan B en 8 fr) + (2 : Int32))) + (2 : Int32))), .val (.int (0 : Int32)), .unset]) rfl k)
            show Gl _ _ _ _ (s₁.setTop (mkF m 83 #[.val (.ref a), .val (.int fr), .val (.int en), .val (.int (scan B en 8 ((scan B en 8 fr) + (2 : Int32)))), .val (.int ((scan B en 8 ((scan B en 8 fr) + (2 : Int32))) + (2 : Int32))), .val (.int (0 : Int32)), .unset] []))
            have hu112 := own_up2 (c := 8) hb78 hs79 (by decide) (by decide)
            have hb113 : 0 ≤ (((scan B en 8 ((scan B en 8 fr) + (2 : Int32))) + (2 : Int32))).toInt ∧ (((scan B en 8 ((scan B en 8 fr) + (2 : Int32))) + (2 : Int32))).toInt ≤ 10 := own_w3 hu112
            refine Gl.go ?_ (fun t k => XS.goto X0.here hx rfl (pc0 := 83) (pc' := 8) rfl (hb hby d7_83) (by decide) (by decide) k)
            show Gl _ _ _ _ (s₁.setTop (mkF m 8 #[.val (.ref a), .val (.int fr), .val (.int en), .val (.int (scan B en 8 ((scan B en 8 fr) + (2 : Int32)))), .val (.int ((scan B en 8 ((scan B en 8 fr) + (2 : Int32))) + (2 : Int32))), .val (.int (0 : Int32)), .unset] []))
            refine Gl.go ?_ (fun t k => XS.iload X0.here hx rfl (hb hby d7_8) rfl k)
            show Gl _ _ _ _ (s₁.setTop (mkF m 10 #[.val (.ref a), .val (.int fr), .val (.int en), .val (.int (scan B en 8 ((scan B en 8 fr) + (2 : Int32)))), .val (.int ((scan B en 8 ((scan B en 8 fr) + (2 : Int32))) + (2 : Int32))), .val (.int (0 : Int32)), .unset] [(.int (0 : Int32))]))
            refine Gl.go ?_ (fun t k => XS.ifYes X0.here hx rfl (pc0 := 10) (pc' := 86) rfl (hb hby d7_10) rfl ((if0 _ _).trans (teq (by decide : (0 : Int32) = (0 : Int32))).1) (by decide) (by decide) k)
            show Gl _ _ _ _ (s₁.setTop (mkF m 86 #[.val (.ref a), .val (.int fr), .val (.int en), .val (.int (scan B en 8 ((scan B en 8 fr) + (2 : Int32)))), .val (.int ((scan B en 8 ((scan B en 8 fr) + (2 : Int32))) + (2 : Int32))), .val (.int (0 : Int32)), .unset] []))
            refine Gl.go ?_ (fun t k => XS.iloadN X0.here hx rfl (hb hby d7_86) rfl k)
            show Gl _ _ _ _ (s₁.setTop (mkF m 87 #[.val (.ref a), .val (.int fr), .val (.int en), .val (.int (scan B en 8 ((scan B en 8 fr) + (2 : Int32)))), .val (.int ((scan B en 8 ((scan B en 8 fr) + (2 : Int32))) + (2 : Int32))), .val (.int (0 : Int32)), .unset] [(.int (scan B en 8 ((scan B en 8 fr) + (2 : Int32))))]))
            refine Gl.go ?_ (fun t k => XS.istore X0.here hx rfl (hb hby d7_87) rfl (l' := #[.val (.ref a), .val (.int fr), .val (.int en), .val (.int (scan B en 8 ((scan B en 8 fr) + (2 : Int32)))), .val (.int ((scan B en 8 ((scan B en 8 fr) + (2 : Int32))) + (2 : Int32))), .val (.int (0 : Int32)), .val (.int (scan B en 8 ((scan B en 8 fr) + (2 : Int32))))]) rfl k)
            show Gl _ _ _ _ (s₁.setTop (mkF m 89 #[.val (.ref a), .val (.int fr), .val (.int en), .val (.int (scan B en 8 ((scan B en 8 fr) + (2 : Int32)))), .val (.int ((scan B en 8 ((scan B en 8 fr) + (2 : Int32))) + (2 : Int32))), .val (.int (0 : Int32)), .val (.int (scan B en 8 ((scan B en 8 fr) + (2 : Int32))))] []))
            refine Gl.go ?_ (fun t k => XS.iloadN X0.here hx rfl (hb hby d7_89) rfl k)
            show Gl _ _ _ _ (s₁.setTop (mkF m 90 #[.val (.ref a), .val (.int fr), .val (.int en), .val (.int (scan B en 8 ((scan B en 8 fr) + (2 : Int32)))), .val (.int ((scan B en 8 ((scan B en 8 fr) + (2 : Int32))) + (2 : Int32))), .val (.int (0 : Int32)), .val (.int (scan B en 8 ((scan B en 8 fr) + (2 : Int32))))] [(.int (scan B en 8 ((scan B en 8 fr) + (2 : Int32))))]))
            refine Gl.go ?_ (fun t k => XS.ifYes X0.here hx rfl (pc0 := 90) (pc' := 119) rfl (hb hby d7_90) rfl ((if0 _ _).trans (flt (iv_nlt' (k := 0) rfl (Int.le_trans hb78.1 hs79.1))).2.1) (by decide) (by decide) k)
            show Gl _ _ _ _ (s₁.setTop (mkF m 119 #[.val (.ref a), .val (.int fr), .val (.int en), .val (.int (scan B en 8 ((scan B en 8 fr) + (2 : Int32)))), .val (.int ((scan B en 8 ((scan B en 8 fr) + (2 : Int32))) + (2 : Int32))), .val (.int (0 : Int32)), .val (.int (scan B en 8 ((scan B en 8 fr) + (2 : Int32))))] []))
            refine Gl.go ?_ (fun t k => XS.iload X0.here hx rfl (hb hby d7_119) rfl k)
            show Gl _ _ _ _ (s₁.setTop (mkF m 121 #[.val (.ref a), .val (.int fr), .val (.int en), .val (.int (scan B en 8 ((scan B en 8 fr) + (2 : Int32)))), .val (.int ((scan B en 8 ((scan B en 8 fr) + (2 : Int32))) + (2 : Int32))), .val (.int (0 : Int32)), .val (.int (scan B en 8 ((scan B en 8 fr) + (2 : Int32))))] [(.int (scan B en 8 ((scan B en 8 fr) + (2 : Int32))))]))
            obtain ⟨fs, hr, hrun, hended, hW, hsame⟩ := X0.leave (v := some (.int (scan B en 8 ((scan B en 8 fr) + (2 : Int32))))) (fun h => by rw [Bd.returns] at h; cases h) (BodyLoose.notSynchronized Bd)
            exact Gl.mk ⟨_, _, retI X0 hx Bd.returns (hb hby d7_121) hr, hrun, hended, _, _, rfl, ⟨congrArg (fun z => some (Value.int z)) ((if_pos hc70).trans ((if_neg hc71).trans ((if_neg hc74).trans ((if_neg hc80).trans ((if_pos hc111).trans (rfl)))))).symm, rfl, e0⟩, ⟨_, rfl⟩, hW, hsame.mono (by decide) (by decide)⟩
          · refine Gl.go ?_ (fun t k => XS.icmpYes X0.here hx rfl (pc0 := 74) (pc' := 80) rfl (hb hby d7_74) rfl (flt hc111).2.1 (by decide) (by decide) k)
            show Gl _ _ _ _ (s₁.setTop (mkF m 80 #[.val (.ref a), .val (.int fr), .val (.int en), .val (.int (scan B en 8 fr)), .val (.int (scan B en 8 ((scan B en 8 fr) + (2 : Int32)))), .val (.int (0 : Int32)), .unset] []))
            refine Gl.go ?_ (fun t k => XS.iinc X0.here hx rfl (hb hby d7_80) rfl (l' := #[.val (.ref a), .val (.int fr), .val (.int en), .val (.int (scan B en 8 fr)), .val (.int ((scan B en 8 ((scan B en 8 fr) + (2 : Int32))) + (2 : Int32))), .val (.int (0 : Int32)), .unset]) rfl k)
            show Gl _ _ _ _ (s₁.setTop (mkF m 83 #[.val (.ref a), .val (.int fr), .val (.int en), .val (.int (scan B en 8 fr)), .val (.int ((scan B en 8 ((scan B en 8 fr) + (2 : Int32))) + (2 : Int32))), .val (.int (0 : Int32)), .unset] []))
            have hu114 := own_up2 (c := 8) hb78 hs79 (by decide) (by decide)
            have hb115 : 0 ≤ (((scan B en 8 ((scan B en 8 fr) + (2 : Int32))) + (2 : Int32))).toInt ∧ (((scan B en 8 ((scan B en 8 fr) + (2 : Int32))) + (2 : Int32))).toInt ≤ 10 := own_w3 hu114
            refine Gl.go ?_ (fun t k => XS.goto X0.here hx rfl (pc0 := 83) (pc' := 8) rfl (hb hby d7_83) (by decide) (by decide) k)
            show Gl _ _ _ _ (s₁.setTop (mkF m 8 #[.val (.ref a), .val (.int fr), .val (.int en), .val (.int (scan B en 8 fr)), .val (.int ((scan B en 8 ((scan B en 8 fr) + (2 : Int32))) + (2 : Int32))), .val (.int (0 : Int32)), .unset] []))
            refine Gl.go ?_ (fun t k => XS.iload X0.here hx rfl (hb hby d7_8) rfl k)
            show Gl _ _ _ _ (s₁.setTop (mkF m 10 #[.val (.ref a), .val (.int fr), .val (.int en), .val (.int (scan B en 8 fr)), .val (.int ((scan B en 8 ((scan B en 8 fr) + (2 : Int32))) + (2 : Int32))), .val (.int (0 : Int32)), .unset] [(.int (0 : Int32))]))
            refine Gl.go ?_ (fun t k => XS.ifYes X0.here hx rfl (pc0 := 10) (pc' := 86) rfl (hb hby d7_10) rfl ((if0 _ _).trans (teq (by decide : (0 : Int32) = (0 : Int32))).1) (by decide) (by decide) k)
            show Gl _ _ _ _ (s₁.setTop (mkF m 86 #[.val (.ref a), .val (.int fr), .val (.int en), .val (.int (scan B en 8 fr)), .val (.int ((scan B en 8 ((scan B en 8 fr) + (2 : Int32))) + (2 : Int32))), .val (.int (0 : Int32)), .unset] []))
            refine Gl.go ?_ (fun t k => XS.iloadN X0.here hx rfl (hb hby d7_86) rfl k)
            show Gl _ _ _ _ (s₁.setTop (mkF m 87 #[.val (.ref a), .val (.int fr), .val (.int en), .val (.int (scan B en 8 fr)), .val (.int ((scan B en 8 ((scan B en 8 fr) + (2 : Int32))) + (2 : Int32))), .val (.int (0 : Int32)), .unset] [(.int (scan B en 8 fr))]))
            refine Gl.go ?_ (fun t k => XS.istore X0.here hx rfl (hb hby d7_87) rfl (l' := #[.val (.ref a), .val (.int fr), .val (.int en), .val (.int (scan B en 8 fr)), .val (.int ((scan B en 8 ((scan B en 8 fr) + (2 : Int32))) + (2 : Int32))), .val (.int (0 : Int32)), .val (.int (scan B en 8 fr))]) rfl k)
            show Gl _ _ _ _ (s₁.setTop (mkF m 89 #[.val (.ref a), .val (.int fr), .val (.int en), .val (.int (scan B en 8 fr)), .val (.int ((scan B en 8 ((scan B en 8 fr) + (2 : Int32))) + (2 : Int32))), .val (.int (0 : Int32)), .val (.int (scan B en 8 fr))] []))
            refine Gl.go ?_ (fun t k => XS.iloadN X0.here hx rfl (hb hby d7_89) rfl k)
            show Gl _ _ _ _ (s₁.setTop (mkF m 90 #[.val (.ref a), .val (.int fr), .val (.int en), .val (.int (scan B en 8 fr)), .val (.int ((scan B en 8 ((scan B en 8 fr) + (2 : Int32))) + (2 : Int32))), .val (.int (0 : Int32)), .val (.int (scan B en 8 fr))] [(.int (scan B en 8 fr))]))
            refine Gl.go ?_ (fun t k => XS.ifYes X0.here hx rfl (pc0 := 90) (pc' := 119) rfl (hb hby d7_90) rfl ((if0 _ _).trans (flt (iv_nlt' (k := 0) rfl (Int.le_trans hb0.1 hs69.1))).2.1) (by decide) (by decide) k)
            show Gl _ _ _ _ (s₁.setTop (mkF m 119 #[.val (.ref a), .val (.int fr), .val (.int en), .val (.int (scan B en 8 fr)), .val (.int ((scan B en 8 ((scan B en 8 fr) + (2 : Int32))) + (2 : Int32))), .val (.int (0 : Int32)), .val (.int (scan B en 8 fr))] []))
            refine Gl.go ?_ (fun t k => XS.iload X0.here hx rfl (hb hby d7_119) rfl k)
            show Gl _ _ _ _ (s₁.setTop (mkF m 121 #[.val (.ref a), .val (.int fr), .val (.int en), .val (.int (scan B en 8 fr)), .val (.int ((scan B en 8 ((scan B en 8 fr) + (2 : Int32))) + (2 : Int32))), .val (.int (0 : Int32)), .val (.int (scan B en 8 fr))] [(.int (scan B en 8 fr))]))
            obtain ⟨fs, hr, hrun, hended, hW, hsame⟩ := X0.leave (v := some (.int (scan B en 8 fr))) (fun h => by rw [Bd.returns] at h; cases h) (BodyLoose.notSynchronized Bd)
            exact Gl.mk ⟨_, _, retI X0 hx Bd.returns (hb hby d7_121) hr, hrun, hended, _, _, rfl, ⟨congrArg (fun z => some (Value.int z)) ((if_pos hc70).trans ((if_neg hc71).trans ((if_neg hc74).trans ((if_neg hc80).trans ((if_neg hc111).trans (rfl)))))).symm, rfl, e0⟩, ⟨_, rfl⟩, hW, hsame.mono (by decide) (by decide)⟩
  · refine Gl.go ?_ (fun t k => XS.icmpYes X0.here hx rfl (pc0 := 39) (pc' := 68) rfl (hb hby d7_39) rfl (flt hc70).2.1 (by decide) (by decide) k)
    show Gl _ _ _ _ (s₁.setTop (mkF m 68 #[.val (.ref a), .val (.int fr), .val (.int en), .val (.int (-1 : Int32)), .val (.int (scan B en 8 fr)), .val (.int (1 : Int32)), .unset] []))
    refine Gl.go ?_ (fun t k => XS.iconst X0.here hx rfl (hb hby d7_68) k)
    show Gl _ _ _ _ (s₁.setTop (mkF m 69 #[.val (.ref a), .val (.int fr), .val (.int en), .val (.int (-1 : Int32)), .val (.int (scan B en 8 fr)), .val (.int (1 : Int32)), .unset] [(.int (0 : Int32))]))
    refine Gl.go ?_ (fun t k => XS.istore X0.here hx rfl (hb hby d7_69) rfl (l' := #[.val (.ref a), .val (.int fr), .val (.int en), .val (.int (-1 : Int32)), .val (.int (scan B en 8 fr)), .val (.int (0 : Int32)), .unset]) rfl k)
    show Gl _ _ _ _ (s₁.setTop (mkF m 71 #[.val (.ref a), .val (.int fr), .val (.int en), .val (.int (-1 : Int32)), .val (.int (scan B en 8 fr)), .val (.int (0 : Int32)), .unset] []))
    refine Gl.go ?_ (fun t k => XS.iload X0.here hx rfl (hb hby d7_71) rfl k)
    show Gl _ _ _ _ (s₁.setTop (mkF m 73 #[.val (.ref a), .val (.int fr), .val (.int en), .val (.int (-1 : Int32)), .val (.int (scan B en 8 fr)), .val (.int (0 : Int32)), .unset] [(.int (scan B en 8 fr))]))
    refine Gl.go ?_ (fun t k => XS.iloadN X0.here hx rfl (hb hby d7_73) rfl k)
    show Gl _ _ _ _ (s₁.setTop (mkF m 74 #[.val (.ref a), .val (.int fr), .val (.int en), .val (.int (-1 : Int32)), .val (.int (scan B en 8 fr)), .val (.int (0 : Int32)), .unset] [(.int en), (.int (scan B en 8 fr))]))
    by_cases hc116 : (scan B en 8 fr) < en
    · refine Gl.go ?_ (fun t k => XS.icmpNo X0.here hx rfl (hb hby d7_74) rfl (tlt hc116).2.1 k)
      show Gl _ _ _ _ (s₁.setTop (mkF m 77 #[.val (.ref a), .val (.int fr), .val (.int en), .val (.int (-1 : Int32)), .val (.int (scan B en 8 fr)), .val (.int (0 : Int32)), .unset] []))
      refine Gl.go ?_ (fun t k => XS.iload X0.here hx rfl (hb hby d7_77) rfl k)
      show Gl _ _ _ _ (s₁.setTop (mkF m 79 #[.val (.ref a), .val (.int fr), .val (.int en), .val (.int (-1 : Int32)), .val (.int (scan B en 8 fr)), .val (.int (0 : Int32)), .unset] [(.int (scan B en 8 fr))]))
      refine Gl.go ?_ (fun t k => XS.istoreN X0.here hx rfl (hb hby d7_79) rfl (l' := #[.val (.ref a), .val (.int fr), .val (.int en), .val (.int (scan B en 8 fr)), .val (.int (scan B en 8 fr)), .val (.int (0 : Int32)), .unset]) rfl k)
      show Gl _ _ _ _ (s₁.setTop (mkF m 80 #[.val (.ref a), .val (.int fr), .val (.int en), .val (.int (scan B en 8 fr)), .val (.int (scan B en 8 fr)), .val (.int (0 : Int32)), .unset] []))
      refine Gl.go ?_ (fun t k => XS.iinc X0.here hx rfl (hb hby d7_80) rfl (l' := #[.val (.ref a), .val (.int fr), .val (.int en), .val (.int (scan B en 8 fr)), .val (.int ((scan B en 8 fr) + (2 : Int32))), .val (.int (0 : Int32)), .unset]) rfl k)
      show Gl _ _ _ _ (s₁.setTop (mkF m 83 #[.val (.ref a), .val (.int fr), .val (.int en), .val (.int (scan B en 8 fr)), .val (.int ((scan B en 8 fr) + (2 : Int32))), .val (.int (0 : Int32)), .unset] []))
      have hu117 := own_up2 (c := 6) hb0 hs69 (by decide) (by decide)
      have hb118 : 0 ≤ (((scan B en 8 fr) + (2 : Int32))).toInt ∧ (((scan B en 8 fr) + (2 : Int32))).toInt ≤ 8 := own_w3 hu117
      refine Gl.go ?_ (fun t k => XS.goto X0.here hx rfl (pc0 := 83) (pc' := 8) rfl (hb hby d7_83) (by decide) (by decide) k)
      show Gl _ _ _ _ (s₁.setTop (mkF m 8 #[.val (.ref a), .val (.int fr), .val (.int en), .val (.int (scan B en 8 fr)), .val (.int ((scan B en 8 fr) + (2 : Int32))), .val (.int (0 : Int32)), .unset] []))
      refine Gl.go ?_ (fun t k => XS.iload X0.here hx rfl (hb hby d7_8) rfl k)
      show Gl _ _ _ _ (s₁.setTop (mkF m 10 #[.val (.ref a), .val (.int fr), .val (.int en), .val (.int (scan B en 8 fr)), .val (.int ((scan B en 8 fr) + (2 : Int32))), .val (.int (0 : Int32)), .unset] [(.int (0 : Int32))]))
      refine Gl.go ?_ (fun t k => XS.ifYes X0.here hx rfl (pc0 := 10) (pc' := 86) rfl (hb hby d7_10) rfl ((if0 _ _).trans (teq (by decide : (0 : Int32) = (0 : Int32))).1) (by decide) (by decide) k)
      show Gl _ _ _ _ (s₁.setTop (mkF m 86 #[.val (.ref a), .val (.int fr), .val (.int en), .val (.int (scan B en 8 fr)), .val (.int ((scan B en 8 fr) + (2 : Int32))), .val (.int (0 : Int32)), .unset] []))
      refine Gl.go ?_ (fun t k => XS.iloadN X0.here hx rfl (hb hby d7_86) rfl k)
      show Gl _ _ _ _ (s₁.setTop (mkF m 87 #[.val (.ref a), .val (.int fr), .val (.int en), .val (.int (scan B en 8 fr)), .val (.int ((scan B en 8 fr) + (2 : Int32))), .val (.int (0 : Int32)), .unset] [(.int (scan B en 8 fr))]))
      refine Gl.go ?_ (fun t k => XS.istore X0.here hx rfl (hb hby d7_87) rfl (l' := #[.val (.ref a), .val (.int fr), .val (.int en), .val (.int (scan B en 8 fr)), .val (.int ((scan B en 8 fr) + (2 : Int32))), .val (.int (0 : Int32)), .val (.int (scan B en 8 fr))]) rfl k)
      show Gl _ _ _ _ (s₁.setTop (mkF m 89 #[.val (.ref a), .val (.int fr), .val (.int en), .val (.int (scan B en 8 fr)), .val (.int ((scan B en 8 fr) + (2 : Int32))), .val (.int (0 : Int32)), .val (.int (scan B en 8 fr))] []))
      refine Gl.go ?_ (fun t k => XS.iloadN X0.here hx rfl (hb hby d7_89) rfl k)
      show Gl _ _ _ _ (s₁.setTop (mkF m 90 #[.val (.ref a), .val (.int fr), .val (.int en), .val (.int (scan B en 8 fr)), .val (.int ((scan B en 8 fr) + (2 : Int32))), .val (.int (0 : Int32)), .val (.int (scan B en 8 fr))] [(.int (scan B en 8 fr))]))
      refine Gl.go ?_ (fun t k => XS.ifYes X0.here hx rfl (pc0 := 90) (pc' := 119) rfl (hb hby d7_90) rfl ((if0 _ _).trans (flt (iv_nlt' (k := 0) rfl (Int.le_trans hb0.1 hs69.1))).2.1) (by decide) (by decide) k)
      show Gl _ _ _ _ (s₁.setTop (mkF m 119 #[.val (.ref a), .val (.int fr), .val (.int en), .val (.int (scan B en 8 fr)), .val (.int ((scan B en 8 fr) + (2 : Int32))), .val (.int (0 : Int32)), .val (.int (scan B en 8 fr))] []))
      refine Gl.go ?_ (fun t k => XS.iload X0.here hx rfl (hb hby d7_119) rfl k)
      show Gl _ _ _ _ (s₁.setTop (mkF m 121 #[.val (.ref a), .val (.int fr), .val (.int en), .val (.int (scan B en 8 fr)), .val (.int ((scan B en 8 fr) + (2 : Int32))), .val (.int (0 : Int32)), .val (.int (scan B en 8 fr))] [(.int (scan B en 8 fr))]))
      obtain ⟨fs, hr, hrun, hended, hW, hsame⟩ := X0.leave (v := some (.int (scan B en 8 fr))) (fun h => by rw [Bd.returns] at h; cases h) (BodyLoose.notSynchronized Bd)
      exact Gl.mk ⟨_, _, retI X0 hx Bd.returns (hb hby d7_121) hr, hrun, hended, _, _, rfl, ⟨congrArg (fun z => some (Value.int z)) ((if_neg hc70).trans ((if_pos hc116).trans (rfl))).symm, rfl, e0⟩, ⟨_, rfl⟩, hW, hsame.mono (by decide) (by decide)⟩
    · refine Gl.go ?_ (fun t k => XS.icmpYes X0.here hx rfl (pc0 := 74) (pc' := 80) rfl (hb hby d7_74) rfl (flt hc116).2.1 (by decide) (by decide) k)
      show Gl _ _ _ _ (s₁.setTop (mkF m 80 #[.val (.ref a), .val (.int fr), .val (.int en), .val (.int (-1 : Int32)), .val (.int (scan B en 8 fr)), .val (.int (0 : Int32)), .unset] []))
      refine Gl.go ?_ (fun t k => XS.iinc X0.here hx rfl (hb hby d7_80) rfl (l' := #[.val (.ref a), .val (.int fr), .val (.int en), .val (.int (-1 : Int32)), .val (.int ((scan B en 8 fr) + (2 : Int32))), .val (.int (0 : Int32)), .unset]) rfl k)
      show Gl _ _ _ _ (s₁.setTop (mkF m 83 #[.val (.ref a), .val (.int fr), .val (.int en), .val (.int (-1 : Int32)), .val (.int ((scan B en 8 fr) + (2 : Int32))), .val (.int (0 : Int32)), .unset] []))
      have hu119 := own_up2 (c := 6) hb0 hs69 (by decide) (by decide)
      have hb120 : 0 ≤ (((scan B en 8 fr) + (2 : Int32))).toInt ∧ (((scan B en 8 fr) + (2 : Int32))).toInt ≤ 8 := own_w3 hu119
      refine Gl.go ?_ (fun t k => XS.goto X0.here hx rfl (pc0 := 83) (pc' := 8) rfl (hb hby d7_83) (by decide) (by decide) k)
      show Gl _ _ _ _ (s₁.setTop (mkF m 8 #[.val (.ref a), .val (.int fr), .val (.int en), .val (.int (-1 : Int32)), .val (.int ((scan B en 8 fr) + (2 : Int32))), .val (.int (0 : Int32)), .unset] []))
      refine Gl.go ?_ (fun t k => XS.iload X0.here hx rfl (hb hby d7_8) rfl k)
      show Gl _ _ _ _ (s₁.setTop (mkF m 10 #[.val (.ref a), .val (.int fr), .val (.int en), .val (.int (-1 : Int32)), .val (.int ((scan B en 8 fr) + (2 : Int32))), .val (.int (0 : Int32)), .unset] [(.int (0 : Int32))]))
      refine Gl.go ?_ (fun t k => XS.ifYes X0.here hx rfl (pc0 := 10) (pc' := 86) rfl (hb hby d7_10) rfl ((if0 _ _).trans (teq (by decide : (0 : Int32) = (0 : Int32))).1) (by decide) (by decide) k)
      show Gl _ _ _ _ (s₁.setTop (mkF m 86 #[.val (.ref a), .val (.int fr), .val (.int en), .val (.int (-1 : Int32)), .val (.int ((scan B en 8 fr) + (2 : Int32))), .val (.int (0 : Int32)), .unset] []))
      refine Gl.go ?_ (fun t k => XS.iloadN X0.here hx rfl (hb hby d7_86) rfl k)
      show Gl _ _ _ _ (s₁.setTop (mkF m 87 #[.val (.ref a), .val (.int fr), .val (.int en), .val (.int (-1 : Int32)), .val (.int ((scan B en 8 fr) + (2 : Int32))), .val (.int (0 : Int32)), .unset] [(.int (-1 : Int32))]))
      refine Gl.go ?_ (fun t k => XS.istore X0.here hx rfl (hb hby d7_87) rfl (l' := #[.val (.ref a), .val (.int fr), .val (.int en), .val (.int (-1 : Int32)), .val (.int ((scan B en 8 fr) + (2 : Int32))), .val (.int (0 : Int32)), .val (.int (-1 : Int32))]) rfl k)
      show Gl _ _ _ _ (s₁.setTop (mkF m 89 #[.val (.ref a), .val (.int fr), .val (.int en), .val (.int (-1 : Int32)), .val (.int ((scan B en 8 fr) + (2 : Int32))), .val (.int (0 : Int32)), .val (.int (-1 : Int32))] []))
      refine Gl.go ?_ (fun t k => XS.iloadN X0.here hx rfl (hb hby d7_89) rfl k)
      show Gl _ _ _ _ (s₁.setTop (mkF m 90 #[.val (.ref a), .val (.int fr), .val (.int en), .val (.int (-1 : Int32)), .val (.int ((scan B en 8 fr) + (2 : Int32))), .val (.int (0 : Int32)), .val (.int (-1 : Int32))] [(.int (-1 : Int32))]))
      refine Gl.go ?_ (fun t k => XS.ifNo X0.here hx rfl (hb hby d7_90) rfl ((if0 _ _).trans (tlt (by decide : (-1 : Int32) < (0 : Int32))).2.1) k)
      show Gl _ _ _ _ (s₁.setTop (mkF m 93 #[.val (.ref a), .val (.int fr), .val (.int en), .val (.int (-1 : Int32)), .val (.int ((scan B en 8 fr) + (2 : Int32))), .val (.int (0 : Int32)), .val (.int (-1 : Int32))] []))
      refine Gl.go ?_ (fun t k => XS.iloadN X0.here hx rfl (hb hby d7_93) rfl k)
      show Gl _ _ _ _ (s₁.setTop (mkF m 94 #[.val (.ref a), .val (.int fr), .val (.int en), .val (.int (-1 : Int32)), .val (.int ((scan B en 8 fr) + (2 : Int32))), .val (.int (0 : Int32)), .val (.int (-1 : Int32))] [(.int en)]))
      refine Gl.go ?_ (fun t k => XS.istore X0.here hx rfl (hb hby d7_94) rfl (l' := #[.val (.ref a), .val (.int fr), .val (.int en), .val (.int (-1 : Int32)), .val (.int ((scan B en 8 fr) + (2 : Int32))), .val (.int (0 : Int32)), .val (.int en)]) rfl k)
      refine loop_trm X0 hx hZ hby e0 a fr en (-1 : Int32) ((scan B en 8 fr) + (2 : Int32)) (0 : Int32) B hB hf 8 en hE (by omega) ?_
      show Gl _ _ _ _ (s₁.setTop (mkF m 119 #[.val (.ref a), .val (.int fr), .val (.int en), .val (.int (-1 : Int32)), .val (.int ((scan B en 8 fr) + (2 : Int32))), .val (.int (0 : Int32)), .val (.int (trm B fr 8 en))] []))
      refine Gl.go ?_ (fun t k => XS.iload X0.here hx rfl (hb hby d7_119) rfl k)
      show Gl _ _ _ _ (s₁.setTop (mkF m 121 #[.val (.ref a), .val (.int fr), .val (.int en), .val (.int (-1 : Int32)), .val (.int ((scan B en 8 fr) + (2 : Int32))), .val (.int (0 : Int32)), .val (.int (trm B fr 8 en))] [(.int (trm B fr 8 en))]))
      obtain ⟨fs, hr, hrun, hended, hW, hsame⟩ := X0.leave (v := some (.int (trm B fr 8 en))) (fun h => by rw [Bd.returns] at h; cases h) (BodyLoose.notSynchronized Bd)
      exact Gl.mk ⟨_, _, retI X0 hx Bd.returns (hb hby d7_121) hr, hrun, hended, _, _, rfl, ⟨congrArg (fun z => some (Value.int z)) ((if_neg hc70).trans ((if_neg hc116).trans (rfl))).symm, rfl, e0⟩, ⟨_, rfl⟩, hW, hsame.mono (by decide) (by decide)⟩
def own_Rel (en S F : Int32) : Prop := (S < en ∧ F = S) ∨ (¬ S < en ∧ F = en)
theorem own_ltz {k en : Int32} {B : Int32 → Int32} (h : ¬ k < en) : f_lt k en B = 0 := if_neg h
theorem own_tail {k en F : Int32} {B : Int32 → Int32} (h : ¬ k < en) (hF : F = en) : (if (f_lt k en B) = (0 : Int32) then F else k) = en := by rw [if_pos (own_ltz h)]; exact hF
theorem own_step {k k' en F : Int32} {B : Int32 → Int32} {n : Nat} (e : k + 1 = k') (ih : own_Rel en (scan B en n k') F) (hF : ¬ k < en → F = en) : own_Rel en (scan B en (n + 1) k) (if (f_lt k en B) = (0 : Int32) then F else k) := by
  by_cases h : k < en
  · by_cases z : B k = 60
    · have q1 : f_lt k en B = 1 := (if_pos h).trans (if_pos z)
      have q2 : scan B en (n + 1) k = k := (if_pos h).trans (if_pos z)
      rw [q2, if_neg (by rw [q1]; decide)]
      exact Or.inl ⟨h, rfl⟩
    · have q1 : f_lt k en B = 0 := (if_pos h).trans (if_neg z)
      have q2 : scan B en (n + 1) k = scan B en n (k + 1) := (if_pos h).trans (if_neg z)
      rw [q2, if_pos q1, e]
      exact ih
  · have q2 : scan B en (n + 1) k = k := if_neg h
    rw [q2, own_tail h (hF h)]
    exact Or.inr ⟨h, rfl⟩
theorem own_rel (B : Int32 → Int32) {i en : Int32} (h0 : 0 ≤ i.toInt) (h1 : i.toInt ≤ 20) (hE : en.toInt ≤ 6) : own_Rel en (scan B en 8 i) (f_first i en B) := by
  have a1 : (i + (1 : Int32)).toInt = i.toInt + 1 := own_add rfl (by omega) (by omega) (by decide) (by decide)
  have a2 : (i + (2 : Int32)).toInt = i.toInt + 2 := own_add rfl (by omega) (by omega) (by decide) (by decide)
  have a3 : (i + (3 : Int32)).toInt = i.toInt + 3 := own_add rfl (by omega) (by omega) (by decide) (by decide)
  have a4 : (i + (4 : Int32)).toInt = i.toInt + 4 := own_add rfl (by omega) (by omega) (by decide) (by decide)
  have a5 : (i + (5 : Int32)).toInt = i.toInt + 5 := own_add rfl (by omega) (by omega) (by decide) (by decide)
  have a6 : (i + (6 : Int32)).toInt = i.toInt + 6 := own_add rfl (by omega) (by omega) (by decide) (by decide)
  have e2 : i + (1 : Int32) + 1 = i + 2 := by rw [Int32.add_assoc]; rfl
  have e3 : i + (2 : Int32) + 1 = i + 3 := by rw [Int32.add_assoc]; rfl
  have e4 : i + (3 : Int32) + 1 = i + 4 := by rw [Int32.add_assoc]; rfl
  have e5 : i + (4 : Int32) + 1 = i + 5 := by rw [Int32.add_assoc]; rfl
  have e6 : i + (5 : Int32) + 1 = i + 6 := by rw [Int32.add_assoc]; rfl
  have n5 : ¬ (i + (5 : Int32)) < en → (en : Int32) = en := fun _ => rfl
  have m1 : ¬ i < en → ¬ (i + (1 : Int32)) < en := fun h q => h (by rw [Int32.lt_iff_toInt_lt] at *; omega)
  have m2 : ¬ (i + (1 : Int32)) < en → ¬ (i + (2 : Int32)) < en := fun h q => h (by rw [Int32.lt_iff_toInt_lt] at *; omega)
  have m3 : ¬ (i + (2 : Int32)) < en → ¬ (i + (3 : Int32)) < en := fun h q => h (by rw [Int32.lt_iff_toInt_lt] at *; omega)
  have m4 : ¬ (i + (3 : Int32)) < en → ¬ (i + (4 : Int32)) < en := fun h q => h (by rw [Int32.lt_iff_toInt_lt] at *; omega)
  have m5 : ¬ (i + (4 : Int32)) < en → ¬ (i + (5 : Int32)) < en := fun h q => h (by rw [Int32.lt_iff_toInt_lt] at *; omega)
  have n6 : ¬ (i + (6 : Int32)) < en := by rw [Int32.lt_iff_toInt_lt]; omega
  have s6 : scan B en 2 (i + 6) = i + 6 := if_neg n6
  have R6 : own_Rel en (scan B en 2 (i + 6)) en := by rw [s6]; exact Or.inr ⟨n6, rfl⟩
  have t5 : ¬ (i + (4 : Int32)) < en → _ = en := fun h => own_tail (B := B) (m5 h) (rfl : en = en)
  have t4 : ¬ (i + (3 : Int32)) < en → _ = en := fun h => own_tail (B := B) (m4 h) (t5 (m4 h))
  have t3 : ¬ (i + (2 : Int32)) < en → _ = en := fun h => own_tail (B := B) (m3 h) (t4 (m3 h))
  have t2 : ¬ (i + (1 : Int32)) < en → _ = en := fun h => own_tail (B := B) (m2 h) (t3 (m2 h))
  have t1 : ¬ i < en → _ = en := fun h => own_tail (B := B) (m1 h) (t2 (m1 h))
  exact own_step rfl (own_step e2 (own_step e3 (own_step e4 (own_step e5 (own_step e6 R6 n5) t5) t4) t3) t2) t1
theorem own_trs (B : Int32 → Int32) (fr r : Int32) (n : Nat) : trm B fr (n + 1) r = if (f_closes r fr B) = (0 : Int32) then r else trm B fr n (r + (-1 : Int32)) := by
  by_cases h : fr < r
  · by_cases z : B (r - 1) = 93
    · have q1 : f_closes r fr B = 1 := (if_pos h).trans (if_pos z)
      have q2 : trm B fr (n + 1) r = trm B fr n (r + (-1 : Int32)) := (if_pos h).trans (if_pos z)
      rw [q2, if_neg (by rw [q1]; decide)]
    · have q1 : f_closes r fr B = 0 := (if_pos h).trans (if_neg z)
      have q2 : trm B fr (n + 1) r = r := (if_pos h).trans (if_neg z)
      rw [q2, if_pos q1]
  · have q1 : f_closes r fr B = 0 := if_neg h
    have q2 : trm B fr (n + 1) r = r := if_neg h
    rw [q2, if_pos q1]
theorem own_trim (B : Int32 → Int32) {fr en : Int32} (hf : 0 ≤ fr.toInt) (hE0 : 0 ≤ en.toInt) (hE : en.toInt ≤ 6) : trm B fr 8 en = f_trim fr en B := by
  have d (x : Int32) (h1 : -50 ≤ x.toInt) (h2 : x.toInt ≤ 50) : (x + (-1 : Int32)).toInt = x.toInt - 1 := by
    rw [own_add (c := -1) rfl (by omega) (by omega) (by decide) (by decide)]; omega
  have d1 := d en (by omega) (by omega)
  have d2 := d _ (by omega : -50 ≤ (en + (-1 : Int32)).toInt) (by omega)
  have d3 := d _ (by omega : -50 ≤ (en + (-1 : Int32) + (-1 : Int32)).toInt) (by omega)
  have d4 := d _ (by omega : -50 ≤ (en + (-1 : Int32) + (-1 : Int32) + (-1 : Int32)).toInt) (by omega)
  have d5 := d _ (by omega : -50 ≤ (en + (-1 : Int32) + (-1 : Int32) + (-1 : Int32) + (-1 : Int32)).toInt) (by omega)
  have d6 := d _ (by omega : -50 ≤ (en + (-1 : Int32) + (-1 : Int32) + (-1 : Int32) + (-1 : Int32) + (-1 : Int32)).toInt) (by omega)
  have last : trm B fr 2 (en + (-1 : Int32) + (-1 : Int32) + (-1 : Int32) + (-1 : Int32) + (-1 : Int32) + (-1 : Int32)) = en + (-1 : Int32) + (-1 : Int32) + (-1 : Int32) + (-1 : Int32) + (-1 : Int32) + (-1 : Int32) := if_neg (by rw [Int32.lt_iff_toInt_lt]; omega)
  rw [own_trs, own_trs, own_trs, own_trs, own_trs, own_trs, last]
  rfl
set_option maxHeartbeats 4000000 in
theorem own_law (B : Int32 → Int32) {fr en : Int32} (hf : 0 ≤ fr.toInt) (hfe : fr.toInt ≤ en.toInt) (hE0 : 0 ≤ en.toInt) (hE : en.toInt ≤ 6) : f_pl fr en B = f_exp fr en B := by
  have hb0 : 0 ≤ fr.toInt ∧ fr.toInt ≤ 20 := by omega
  have R1 := own_rel B hb0.1 hb0.2 hE
  have S1 := own_scan_ge (B := B) hE 8 fr hb0.1 hb0.2
  have n10 : ¬ (1 : Int32) = 0 := by decide
  have nn : ¬ en < en := Int32.lt_irrefl
  have T := own_trim B hf hE0 hE
  unfold f_pl f_exp
  rw [T]
  generalize f_first fr en B = p at *
  generalize scan B en 8 fr = j1 at *
  rcases R1 with ⟨c1, e1⟩ | ⟨c1, e1⟩
  · replace e1 := e1.symm; subst e1
    have hb2 := own_up2 (c := 18) (i := fr) (by omega) S1 (by decide) (by decide)
    have c1' := Int32.lt_iff_toInt_lt.mp c1
    have R2 := own_rel B (i := j1 + 2) hb2.1 (by omega) hE
    have S2 := own_scan_ge (B := B) hE 8 (j1 + 2) hb2.1 (by omega)
    generalize f_first (j1 + 2) en B = q at *
    generalize scan B en 8 (j1 + 2) = j2 at *
    simp only [if_pos c1]
    by_cases d1 : (j1 + (1 : Int32)) < en
    · by_cases b1 : B (j1 + (1 : Int32)) = (33 : Int32)
      · have st : f_stops j1 en B = 1 := (if_pos d1).trans (if_pos b1)
        rw [if_pos d1, if_pos b1, st, if_neg n10]
      · by_cases b2 : B (j1 + (1 : Int32)) = (63 : Int32)
        · have st : f_stops j1 en B = 1 := (if_pos d1).trans ((if_neg b1).trans (if_pos b2))
          rw [if_pos d1, if_neg b1, if_pos b2, st, if_neg n10]
        · have st : f_stops j1 en B = 0 := (if_pos d1).trans ((if_neg b1).trans (if_neg b2))
          rw [if_pos d1, if_neg b1, if_neg b2, st, if_pos rfl]
          rcases R2 with ⟨c2, e2⟩ | ⟨c2, e2⟩
          · replace e2 := e2.symm; subst e2
            have c2' := Int32.lt_iff_toInt_lt.mp c2
            have hb3 := own_up2 (c := 18) (i := j1 + 2) (by omega) S2 (by decide) (by decide)
            have R3 := own_rel B (i := j2 + 2) hb3.1 (by omega) hE
            have S3 := own_scan_ge (B := B) hE 8 (j2 + 2) hb3.1 (by omega)
            generalize f_first (j2 + 2) en B = r at *
            generalize scan B en 8 (j2 + 2) = j3 at *
            simp only [if_pos c2]
            by_cases d2 : (j2 + (1 : Int32)) < en
            · by_cases b3 : B (j2 + (1 : Int32)) = (33 : Int32)
              · have st : f_stops j2 en B = 1 := (if_pos d2).trans (if_pos b3)
                rw [if_pos d2, if_pos b3, st, if_neg n10]
              · by_cases b4 : B (j2 + (1 : Int32)) = (63 : Int32)
                · have st : f_stops j2 en B = 1 := (if_pos d2).trans ((if_neg b3).trans (if_pos b4))
                  rw [if_pos d2, if_neg b3, if_pos b4, st, if_neg n10]
                · have st : f_stops j2 en B = 0 := (if_pos d2).trans ((if_neg b3).trans (if_neg b4))
                  rw [if_pos d2, if_neg b3, if_neg b4, st, if_pos rfl]
                  rcases R3 with ⟨c3, e3⟩ | ⟨c3, e3⟩
                  · replace e3 := e3.symm; subst e3
                    have c3' := Int32.lt_iff_toInt_lt.mp c3
                    have hb4 := own_up2 (c := 18) (i := j2 + 2) (by omega) S3 (by decide) (by decide)
                    have S4 := own_scan_ge (B := B) hE 8 (j3 + 2) hb4.1 (by omega)
                    have c4 : ¬ (scan B en 8 (j3 + 2)) < en := by rw [Int32.lt_iff_toInt_lt]; omega
                    simp only [if_pos c3, if_neg c4, ite_self]
                  · rw [e3]
                    have c5 : ¬ (j3 + (1 : Int32)) < en := fun q => c3 (own_j2 (i := j2 + 2) (by omega) S3 q)
                    rw [if_neg c5, if_neg c3, if_neg nn]
            · have st : f_stops j2 en B = 1 := if_neg d2
              rw [if_neg d2, st, if_neg n10]
          · rw [e2]
            have c5 : ¬ (j2 + (1 : Int32)) < en := fun q => c2 (own_j2 (i := j1 + 2) (by omega) S2 q)
            rw [if_neg c5, if_neg c2, if_neg nn]
    · have st : f_stops j1 en B = 1 := if_neg d1
      rw [if_neg d1, st, if_neg n10]
  · rw [e1]
    have c5 : ¬ (j1 + (1 : Int32)) < en := fun q => c1 (own_j2 (i := fr) (by omega) S1 q)
    rw [if_neg c5, if_neg c1, if_neg nn]
theorem own_args (a b : Int32) : ∃ fr en : Int32, (b &&& (2147483647 : Int32)) % (7 : Int32) = en ∧ en + (1 : Int32) ≠ 0 ∧ (a &&& (2147483647 : Int32)) % (en + (1 : Int32)) = fr ∧ 0 ≤ fr.toInt ∧ fr.toInt ≤ en.toInt ∧ 0 ≤ en.toInt ∧ en.toInt ≤ 6 := by
  have ea : (a &&& (2147483647 : Int32)).toInt = a.toInt % 2 ^ 31 := Jvm.Kit.i32_mask a 2147483647 (k := 31) (by decide) (by decide)
  have eb : (b &&& (2147483647 : Int32)).toInt = b.toInt % 2 ^ 31 := Jvm.Kit.i32_mask b 2147483647 (k := 31) (by decide) (by decide)
  have e0 : (0 : Int32).toInt = 0 := rfl
  have h1 : ((b &&& (2147483647 : Int32)) % (7 : Int32)).toInt = (b &&& (2147483647 : Int32)).toInt % 7 := Jvm.Kit.i32_rem_nonneg (by omega)
  generalize (b &&& (2147483647 : Int32)) % (7 : Int32) = en at h1
  have h2 : (en + (1 : Int32)).toInt = en.toInt + 1 := own_succ (by omega)
  have h3 : ((a &&& (2147483647 : Int32)) % (en + (1 : Int32))).toInt = (a &&& (2147483647 : Int32)).toInt % (en + (1 : Int32)).toInt := Jvm.Kit.i32_rem_nonneg (by omega)
  have h4 : 0 ≤ (a &&& (2147483647 : Int32)).toInt % (en + (1 : Int32)).toInt := Int.emod_nonneg _ (by omega)
  have h5 : (a &&& (2147483647 : Int32)).toInt % (en + (1 : Int32)).toInt < (en + (1 : Int32)).toInt := Int.emod_lt_of_pos _ (by omega)
  refine ⟨_, en, rfl, fun q => ?_, rfl, by omega, by omega, by omega, by omega⟩
  rw [q] at h2
  omega
theorem pn_0 : plainName "com/example/facet/facet/xml/MarkupScannerPlainUntilPinLaw" = true := by first | (simp [plainName, overriddenIn]; done) | decide +kernel
theorem pd_2 : parseMethodDescriptor "(IJI)B" = some ⟨[.int, .long, .int], some .byte⟩ := by decide +kernel
def own_bs (sel : Int32) (raw : Int64) : Int32 → Int32 := nth [(nar .byte (f_pick sel raw (0 : Int32))), (nar .byte (f_pick sel raw (1 : Int32))), (nar .byte (f_pick sel raw (2 : Int32))), (nar .byte (f_pick sel raw (3 : Int32))), (nar .byte (f_pick sel raw (4 : Int32))), (nar .byte (f_pick sel raw (5 : Int32)))]
def f_law (sel : Int32) (raw : Int64) (fr en : Int32) : Int32 := (1 : Int32)
theorem ef_rm0 (m : MethodId) (x0 : Int32) (x1 : Int64) (x2 : Int32) (x3 : Int32) : entryFrame m #[(.int x0), (.long x1), (.int x2), (.int x3)] maxLocals = mkF m 0 #[.val (.int x0), .val (.long x1), .second, .val (.int x2), .val (.int x3), .unset, .unset, .unset, .unset, .unset] [] := by first | (simp [entryFrame, mkF, argsToLocals, Value.category, maxLocals]; done) | rfl
set_option maxRecDepth 65536 in
set_option maxHeartbeats 40000000 in
theorem rm0 (l : Launch) (Z : State) (a0 : Array Value) (hw : ∀ d ∈ tables_1, d.before a0 Z = true) (ws : List Jvm.Cond) (sel : Int32) (raw : Int64) (ua : Int32) (uc : Int32) (fr en : Int32) (h0 : Heap) (n0 : Nat) (Z0 : n0 ≤ h0.size) (hen : (uc &&& (2147483647 : Int32)) % (7 : Int32) = en) (hnz : en + (1 : Int32) ≠ 0) (hfr : (ua &&& (2147483647 : Int32)) % (en + (1 : Int32)) = fr) (hf : 0 ≤ fr.toInt) (hfe : fr.toInt ≤ en.toInt) (hE0 : 0 ≤ en.toInt) (hE : en.toInt ≤ 6) :
    MetFree l x (head1 (Jvm.Cond.code x code maxLocals ret :: ws) room_1) (fun aQ U => aQ = #[(.int sel), (.long raw), (.int ua), (.int uc)] ∧ Z.Warmed39 U.vm ∧ U.heap = h0) (fun _ _ _ _ _ => True) (fun _ U o U' => ∃ vQ LQ, o = .returned vQ ∧ (vQ = some (.int (f_law sel raw fr en)) ∧ Fr n0 LQ) ∧ FrameEnd U o U' LQ room_1.cells room_1.slots) := by
  refine MetFree.of_bodySF (plainFor_of_name pn_0) hisR ?_
  intro p e s m args below meth c s₁ Bd hml0 hP hK
  obtain ⟨rfl, hZ, hh⟩ := hP
  have hx := Bd.exec
  have hby := Bd.bytes
  have hml : c.maxLocals = 10 := hml0
  have hown : s.vm.findClass "com/example/facet/facet/xml/MarkupScannerPlainUntilPinLaw" = some m.cls := findClass_of_methodNamed Bd.named
  have hnm := (name_of_methodNamed Bd.named Bd.method).1
  have X0 : Stand p l e room_1 s m #[(.int sel), (.long raw), (.int ua), (.int uc)] below meth c s₁ [] 0 0 := Stand.of_body Bd
  have e0 : s₁.heap = h0 := by rw [← hh, Bd.state]; rfl
  have NF := Fr.nil n0
  refine Gl.out ?_
  refine Gl.go ?_ (fun t k => castTop (ef_rm0 m sel raw ua uc) k)
  show Gl _ _ _ _ (s₁.setTop (mkF m 0 #[.val (.int sel), .val (.long raw), .second, .val (.int ua), .val (.int uc), .unset, .unset, .unset, .unset, .unset] []))
  refine Gl.go ?_ (fun t k => XS.bipush X0.here hx rfl (hb hby at_0) k)
  show Gl _ _ _ _ (s₁.setTop (mkF m 2 #[.val (.int sel), .val (.long raw), .second, .val (.int ua), .val (.int uc), .unset, .unset, .unset, .unset, .unset] [(.int (6 : Int32))]))
  obtain ⟨T121, h121, k121, X121, e121, E121, A121, st121⟩ := newP X0 hx hZ (hw _ (List.mem_of_getElem? (i := 0) rfl)) e0 (g := (mkF m 2 #[.val (.int sel), .val (.long raw), .second, .val (.int ua), .val (.int uc), .unset, .unset, .unset, .unset, .unset] [(.int (6 : Int32))])) rfl (hb hby at_2) rfl (by decide) (cap := 6) (by decide) (by decide) (by decide) (by decide)
  obtain ⟨b121, g121⟩ : ∃ z, z = h0.size := ⟨_, rfl⟩
  rw [← g121] at A121 st121
  have g_b121 : n0 ≤ b121 := Nat.le_trans Z0 (Nat.le_of_eq g121.symm)
  have Z0 := Nat.le_trans Z0 E121.1
  have V_b121 : Arv Z h121 b121 k121 .byte (6 : Int32) [(.int (0 : Int32)), (.int (0 : Int32)), (.int (0 : Int32)), (.int (0 : Int32)), (.int (0 : Int32)), (.int (0 : Int32))] (.int (0 : Int32)) := (Arv.new A121 (by decide)).pad (pad_rep [] (.int (0 : Int32)) 6)
  refine Gl.go ?_ st121
  show Gl _ _ _ _ (T121.setTop (mkF m 4 #[.val (.int sel), .val (.long raw), .second, .val (.int ua), .val (.int uc), .unset, .unset, .unset, .unset, .unset] [(.ref b121)]))
  refine Gl.go ?_ (fun t k => XS.astore X121.here hx rfl (hb hby at_4) rfl rfl (l' := #[.val (.int sel), .val (.long raw), .second, .val (.int ua), .val (.int uc), .val (.ref b121), .unset, .unset, .unset, .unset]) rfl k)
  show Gl _ _ _ _ (T121.setTop (mkF m 6 #[.val (.int sel), .val (.long raw), .second, .val (.int ua), .val (.int uc), .val (.ref b121), .unset, .unset, .unset, .unset] []))
  refine Gl.go ?_ (fun t k => XS.aload X121.here hx rfl (hb hby at_6) rfl rfl k)
  show Gl _ _ _ _ (T121.setTop (mkF m 8 #[.val (.int sel), .val (.long raw), .second, .val (.int ua), .val (.int uc), .val (.ref b121), .unset, .unset, .unset, .unset] [(.ref b121)]))
  refine Gl.go ?_ (fun t k => XS.iconst X121.here hx rfl (hb hby at_8) k)
  show Gl _ _ _ _ (T121.setTop (mkF m 9 #[.val (.int sel), .val (.long raw), .second, .val (.int ua), .val (.int uc), .val (.ref b121), .unset, .unset, .unset, .unset] [(.int (0 : Int32)), (.ref b121)]))
  refine Gl.go ?_ (fun t k => XS.iloadN X121.here hx rfl (hb hby at_9) rfl k)
  show Gl _ _ _ _ (T121.setTop (mkF m 10 #[.val (.int sel), .val (.long raw), .second, .val (.int ua), .val (.int uc), .val (.ref b121), .unset, .unset, .unset, .unset] [(.int sel), (.int (0 : Int32)), (.ref b121)]))
  refine Gl.go ?_ (fun t k => XS.lloadN X121.here hx rfl (hb hby at_10) rfl k)
  show Gl _ _ _ _ (T121.setTop (mkF m 11 #[.val (.int sel), .val (.long raw), .second, .val (.int ua), .val (.int uc), .val (.ref b121), .unset, .unset, .unset, .unset] [(.long raw), (.int sel), (.int (0 : Int32)), (.ref b121)]))
  refine Gl.go ?_ (fun t k => XS.iconst X121.here hx rfl (hb hby at_11) k)
  show Gl _ _ _ _ (T121.setTop (mkF m 12 #[.val (.int sel), .val (.long raw), .second, .val (.int ua), .val (.int uc), .val (.ref b121), .unset, .unset, .unset, .unset] [(.int (0 : Int32)), (.long raw), (.int sel), (.int (0 : Int32)), (.ref b121)]))
  obtain ⟨_, _, ⟨T122, L122, k122, n122⟩, -, X122, ⟨Lc122, hQ122, l122, y122, z122⟩, st122⟩ := Jvm.LawKit.callS X121 hx (y := (⟨"com/example/facet/facet/xml/MarkupScannerPlainUntilPinLaw", "pick", "(IJI)B"⟩ : MethodName)) hown (mvT hZ (hw _ (List.mem_of_getElem? (i := 1) rfl))) (mvT hZ (hw _ (List.mem_of_getElem? (i := 2) rfl))) (mvT hZ (hw _ (List.mem_of_getElem? (i := 3) rfl))) (mvT hZ (hw _ (List.mem_of_getElem? (i := 4) rfl))) (by decide) (backOf (W := 2) (rm1 l Z a0 hw [] sel raw (0 : Int32) h121) hZ (hw _ (List.mem_of_getElem? (i := 4) rfl)) (hw _ (List.mem_of_getElem? (i := 3) rfl)) (by decide) (by decide)) (g := (mkF m 12 #[.val (.int sel), .val (.long raw), .second, .val (.int ua), .val (.int uc), .val (.ref b121), .unset, .unset, .unset, .unset] [(.int (0 : Int32)), (.long raw), (.int sel), (.int (0 : Int32)), (.ref b121)])) rfl (by rw [hml]; rfl) (argsL := [(.int sel), (.long raw), (.int (0 : Int32))]) (rest := [(.int (0 : Int32)), (.ref b121)]) (lenOf pd_2 rfl) rfl (by show 2 * 0 + _ ≤ _; exact Nat.le_of_eq rfl) (hb hby at_12) (fun _ _ => ⟨rfl, e121, (by decide : 1 + 0 ≤ _), (by decide : 6 + 0 ≤ _)⟩)
  dsimp only [Pt.U, Pt.locs, Pt.cells, Pt.slots] at X122 l122 y122 z122 st122 hQ122
  subst l122 y122 z122
  obtain ⟨rfl, rfl, e122⟩ := hQ122
  have NF := Fr.app NF (Fr.nil n0)
  refine Gl.go ?_ st122
  show Gl _ _ _ _ (T122.setTop (mkF m 15 #[.val (.int sel), .val (.long raw), .second, .val (.int ua), .val (.int uc), .val (.ref b121), .unset, .unset, .unset, .unset] [(.int (f_pick sel raw (0 : Int32))), (.int (0 : Int32)), (.ref b121)]))
  obtain ⟨cl123, Ar123, q123, S123, N123, Hh123, G123⟩ := V_b121
  obtain ⟨T123, h123, X123, e123, W123, st123⟩ := stB X122 hx hZ e122 Ar123 (j := (0 : Int32)) (inb_of S123 ⟨by decide, by decide⟩) (g := (mkF m 15 #[.val (.int sel), .val (.long raw), .second, .val (.int ua), .val (.int uc), .val (.ref b121), .unset, .unset, .unset, .unset] [(.int (f_pick sel raw (0 : Int32))), (.int (0 : Int32)), (.ref b121)])) rfl rfl (hb hby at_15)
  have Z0 := Nat.le_trans Z0 (Keep.of_wr W123).1
  have V_b121 : Arv Z h123 b121 k121 .byte (6 : Int32) [(.int (nar .byte (f_pick sel raw (0 : Int32)))), (.int (0 : Int32)), (.int (0 : Int32)), (.int (0 : Int32)), (.int (0 : Int32)), (.int (0 : Int32))] (.int (0 : Int32)) := Arv.set Ar123 q123 S123 N123 Hh123 G123 (fits_nar_byte _) W123 0 rfl (Nat.le_of_ble_eq_true rfl)
  have NF := Fr.snoc X123 NF g_b121
  refine Gl.go ?_ st123
  show Gl _ _ _ _ (T123.setTop (mkF m 16 #[.val (.int sel), .val (.long raw), .second, .val (.int ua), .val (.int uc), .val (.ref b121), .unset, .unset, .unset, .unset] []))
  refine Gl.go ?_ (fun t k => XS.aload X123.here hx rfl (hb hby at_16) rfl rfl k)
  show Gl _ _ _ _ (T123.setTop (mkF m 18 #[.val (.int sel), .val (.long raw), .second, .val (.int ua), .val (.int uc), .val (.ref b121), .unset, .unset, .unset, .unset] [(.ref b121)]))
  refine Gl.go ?_ (fun t k => XS.iconst X123.here hx rfl (hb hby at_18) k)
  show Gl _ _ _ _ (T123.setTop (mkF m 19 #[.val (.int sel), .val (.long raw), .second, .val (.int ua), .val (.int uc), .val (.ref b121), .unset, .unset, .unset, .unset] [(.int (1 : Int32)), (.ref b121)]))
  refine Gl.go ?_ (fun t k => XS.iloadN X123.here hx rfl (hb hby at_19) rfl k)
  show Gl _ _ _ _ (T123.setTop (mkF m 20 #[.val (.int sel), .val (.long raw), .second, .val (.int ua), .val (.int uc), .val (.ref b121), .unset, .unset, .unset, .unset] [(.int sel), (.int (1 : Int32)), (.ref b121)]))
  refine Gl.go ?_ (fun t k => XS.lloadN X123.here hx rfl (hb hby at_20) rfl k)
  show Gl _ _ _ _ (T123.setTop (mkF m 21 #[.val (.int sel), .val (.long raw), .second, .val (.int ua), .val (.int uc), .val (.ref b121), .unset, .unset, .unset, .unset] [(.long raw), (.int sel), (.int (1 : Int32)), (.ref b121)]))
  refine Gl.go ?_ (fun t k => XS.iconst X123.here hx rfl (hb hby at_21) k)
  show Gl _ _ _ _ (T123.setTop (mkF m 22 #[.val (.int sel), .val (.long raw), .second, .val (.int ua), .val (.int uc), .val (.ref b121), .unset, .unset, .unset, .unset] [(.int (1 : Int32)), (.long raw), (.int sel), (.int (1 : Int32)), (.ref b121)]))
  obtain ⟨_, _, ⟨T124, L124, k124, n124⟩, -, X124, ⟨Lc124, hQ124, l124, y124, z124⟩, st124⟩ := Jvm.LawKit.callS X123 hx (y := (⟨"com/example/facet/facet/xml/MarkupScannerPlainUntilPinLaw", "pick", "(IJI)B"⟩ : MethodName)) hown (mvT hZ (hw _ (List.mem_of_getElem? (i := 1) rfl))) (mvT hZ (hw _ (List.mem_of_getElem? (i := 2) rfl))) (mvT hZ (hw _ (List.mem_of_getElem? (i := 3) rfl))) (mvT hZ (hw _ (List.mem_of_getElem? (i := 4) rfl))) (by decide) (backOf (W := 2) (rm1 l Z a0 hw [] sel raw (1 : Int32) h123) hZ (hw _ (List.mem_of_getElem? (i := 4) rfl)) (hw _ (List.mem_of_getElem? (i := 3) rfl)) (by decide) (by decide)) (g := (mkF m 22 #[.val (.int sel), .val (.long raw), .second, .val (.int ua), .val (.int uc), .val (.ref b121), .unset, .unset, .unset, .unset] [(.int (1 : Int32)), (.long raw), (.int sel), (.int (1 : Int32)), (.ref b121)])) rfl (by rw [hml]; rfl) (argsL := [(.int sel), (.long raw), (.int (1 : Int32))]) (rest := [(.int (1 : Int32)), (.ref b121)]) (lenOf pd_2 rfl) rfl (by show 2 * 0 + _ ≤ _; exact Nat.le_of_eq rfl) (hb hby at_22) (fun _ _ => ⟨rfl, e123, (by decide : 1 + 0 ≤ _), (by decide : 6 + 0 ≤ _)⟩)
  dsimp only [Pt.U, Pt.locs, Pt.cells, Pt.slots] at X124 l124 y124 z124 st124 hQ124
  subst l124 y124 z124
  obtain ⟨rfl, rfl, e124⟩ := hQ124
  have NF := Fr.app NF (Fr.nil n0)
  refine Gl.go ?_ st124
  show Gl _ _ _ _ (T124.setTop (mkF m 25 #[.val (.int sel), .val (.long raw), .second, .val (.int ua), .val (.int uc), .val (.ref b121), .unset, .unset, .unset, .unset] [(.int (f_pick sel raw (1 : Int32))), (.int (1 : Int32)), (.ref b121)]))
  obtain ⟨cl125, Ar125, q125, S125, N125, Hh125, G125⟩ := V_b121
  obtain ⟨T125, h125, X125, e125, W125, st125⟩ := stB X124 hx hZ e124 Ar125 (j := (1 : Int32)) (inb_of S125 ⟨by decide, by decide⟩) (g := (mkF m 25 #[.val (.int sel), .val (.long raw), .second, .val (.int ua), .val (.int uc), .val (.ref b121), .unset, .unset, .unset, .unset] [(.int (f_pick sel raw (1 : Int32))), (.int (1 : Int32)), (.ref b121)])) rfl rfl (hb hby at_25)
  have Z0 := Nat.le_trans Z0 (Keep.of_wr W125).1
  have V_b121 : Arv Z h125 b121 k121 .byte (6 : Int32) [(.int (nar .byte (f_pick sel raw (0 : Int32)))), (.int (nar .byte (f_pick sel raw (1 : Int32)))), (.int (0 : Int32)), (.int (0 : Int32)), (.int (0 : Int32)), (.int (0 : Int32))] (.int (0 : Int32)) := Arv.set Ar125 q125 S125 N125 Hh125 G125 (fits_nar_byte _) W125 1 rfl (Nat.le_of_ble_eq_true rfl)
  have NF := Fr.snoc X125 NF g_b121
  refine Gl.go ?_ st125
  show Gl _ _ _ _ (T125.setTop (mkF m 26 #[.val (.int sel), .val (.long raw), .second, .val (.int ua), .val (.int uc), .val (.ref b121), .unset, .unset, .unset, .unset] []))
  refine Gl.go ?_ (fun t k => XS.aload X125.here hx rfl (hb hby at_26) rfl rfl k)
  show Gl _ _ _ _ (T125.setTop (mkF m 28 #[.val (.int sel), .val (.long raw), .second, .val (.int ua), .val (.int uc), .val (.ref b121), .unset, .unset, .unset, .unset] [(.ref b121)]))
  refine Gl.go ?_ (fun t k => XS.iconst X125.here hx rfl (hb hby at_28) k)
  show Gl _ _ _ _ (T125.setTop (mkF m 29 #[.val (.int sel), .val (.long raw), .second, .val (.int ua), .val (.int uc), .val (.ref b121), .unset, .unset, .unset, .unset] [(.int (2 : Int32)), (.ref b121)]))
  refine Gl.go ?_ (fun t k => XS.iloadN X125.here hx rfl (hb hby at_29) rfl k)
  show Gl _ _ _ _ (T125.setTop (mkF m 30 #[.val (.int sel), .val (.long raw), .second, .val (.int ua), .val (.int uc), .val (.ref b121), .unset, .unset, .unset, .unset] [(.int sel), (.int (2 : Int32)), (.ref b121)]))
  refine Gl.go ?_ (fun t k => XS.lloadN X125.here hx rfl (hb hby at_30) rfl k)
  show Gl _ _ _ _ (T125.setTop (mkF m 31 #[.val (.int sel), .val (.long raw), .second, .val (.int ua), .val (.int uc), .val (.ref b121), .unset, .unset, .unset, .unset] [(.long raw), (.int sel), (.int (2 : Int32)), (.ref b121)]))
  refine Gl.go ?_ (fun t k => XS.iconst X125.here hx rfl (hb hby at_31) k)
  show Gl _ _ _ _ (T125.setTop (mkF m 32 #[.val (.int sel), .val (.long raw), .second, .val (.int ua), .val (.int uc), .val (.ref b121), .unset, .unset, .unset, .unset] [(.int (2 : Int32)), (.long raw), (.int sel), (.int (2 : Int32)), (.ref b121)]))
  obtain ⟨_, _, ⟨T126, L126, k126, n126⟩, -, X126, ⟨Lc126, hQ126, l126, y126, z126⟩, st126⟩ := Jvm.LawKit.callS X125 hx (y := (⟨"com/example/facet/facet/xml/MarkupScannerPlainUntilPinLaw", "pick", "(IJI)B"⟩ : MethodName)) hown (mvT hZ (hw _ (List.mem_of_getElem? (i := 1) rfl))) (mvT hZ (hw _ (List.mem_of_getElem? (i := 2) rfl))) (mvT hZ (hw _ (List.mem_of_getElem? (i := 3) rfl))) (mvT hZ (hw _ (List.mem_of_getElem? (i := 4) rfl))) (by decide) (backOf (W := 2) (rm1 l Z a0 hw [] sel raw (2 : Int32) h125) hZ (hw _ (List.mem_of_getElem? (i := 4) rfl)) (hw _ (List.mem_of_getElem? (i := 3) rfl)) (by decide) (by decide)) (g := (mkF m 32 #[.val (.int sel), .val (.long raw), .second, .val (.int ua), .val (.int uc), .val (.ref b121), .unset, .unset, .unset, .unset] [(.int (2 : Int32)), (.long raw), (.int sel), (.int (2 : Int32)), (.ref b121)])) rfl (by rw [hml]; rfl) (argsL := [(.int sel), (.long raw), (.int (2 : Int32))]) (rest := [(.int (2 : Int32)), (.ref b121)]) (lenOf pd_2 rfl) rfl (by show 2 * 0 + _ ≤ _; exact Nat.le_of_eq rfl) (hb hby at_32) (fun _ _ => ⟨rfl, e125, (by decide : 1 + 0 ≤ _), (by decide : 6 + 0 ≤ _)⟩)
  dsimp only [Pt.U, Pt.locs, Pt.cells, Pt.slots] at X126 l126 y126 z126 st126 hQ126
  subst l126 y126 z126
  obtain ⟨rfl, rfl, e126⟩ := hQ126
  have NF := Fr.app NF (Fr.nil n0)
  refine Gl.go ?_ st126
  show Gl _ _ _ _ (T126.setTop (mkF m 35 #[.val (.int sel), .val (.long raw), .second, .val (.int ua), .val (.int uc), .val (.ref b121), .unset, .unset, .unset, .unset] [(.int (f_pick sel raw (2 : Int32))), (.int (2 : Int32)), (.ref b121)]))
  obtain ⟨cl127, Ar127, q127, S127, N127, Hh127, G127⟩ := V_b121
  obtain ⟨T127, h127, X127, e127, W127, st127⟩ := stB X126 hx hZ e126 Ar127 (j := (2 : Int32)) (inb_of S127 ⟨by decide, by decide⟩) (g := (mkF m 35 #[.val (.int sel), .val (.long raw), .second, .val (.int ua), .val (.int uc), .val (.ref b121), .unset, .unset, .unset, .unset] [(.int (f_pick sel raw (2 : Int32))), (.int (2 : Int32)), (.ref b121)])) rfl rfl (hb hby at_35)
  have Z0 := Nat.le_trans Z0 (Keep.of_wr W127).1
  have V_b121 : Arv Z h127 b121 k121 .byte (6 : Int32) [(.int (nar .byte (f_pick sel raw (0 : Int32)))), (.int (nar .byte (f_pick sel raw (1 : Int32)))), (.int (nar .byte (f_pick sel raw (2 : Int32)))), (.int (0 : Int32)), (.int (0 : Int32)), (.int (0 : Int32))] (.int (0 : Int32)) := Arv.set Ar127 q127 S127 N127 Hh127 G127 (fits_nar_byte _) W127 2 rfl (Nat.le_of_ble_eq_true rfl)
  have NF := Fr.snoc X127 NF g_b121
  refine Gl.go ?_ st127
  show Gl _ _ _ _ (T127.setTop (mkF m 36 #[.val (.int sel), .val (.long raw), .second, .val (.int ua), .val (.int uc), .val (.ref b121), .unset, .unset, .unset, .unset] []))
  refine Gl.go ?_ (fun t k => XS.aload X127.here hx rfl (hb hby at_36) rfl rfl k)
  show Gl _ _ _ _ (T127.setTop (mkF m 38 #[.val (.int sel), .val (.long raw), .second, .val (.int ua), .val (.int uc), .val (.ref b121), .unset, .unset, .unset, .unset] [(.ref b121)]))
  refine Gl.go ?_ (fun t k => XS.iconst X127.here hx rfl (hb hby at_38) k)
  show Gl _ _ _ _ (T127.setTop (mkF m 39 #[.val (.int sel), .val (.long raw), .second, .val (.int ua), .val (.int uc), .val (.ref b121), .unset, .unset, .unset, .unset] [(.int (3 : Int32)), (.ref b121)]))
  refine Gl.go ?_ (fun t k => XS.iloadN X127.here hx rfl (hb hby at_39) rfl k)
  show Gl _ _ _ _ (T127.setTop (mkF m 40 #[.val (.int sel), .val (.long raw), .second, .val (.int ua), .val (.int uc), .val (.ref b121), .unset, .unset, .unset, .unset] [(.int sel), (.int (3 : Int32)), (.ref b121)]))
  refine Gl.go ?_ (fun t k => XS.lloadN X127.here hx rfl (hb hby at_40) rfl k)
  show Gl _ _ _ _ (T127.setTop (mkF m 41 #[.val (.int sel), .val (.long raw), .second, .val (.int ua), .val (.int uc), .val (.ref b121), .unset, .unset, .unset, .unset] [(.long raw), (.int sel), (.int (3 : Int32)), (.ref b121)]))
  refine Gl.go ?_ (fun t k => XS.iconst X127.here hx rfl (hb hby at_41) k)
  show Gl _ _ _ _ (T127.setTop (mkF m 42 #[.val (.int sel), .val (.long raw), .second, .val (.int ua), .val (.int uc), .val (.ref b121), .unset, .unset, .unset, .unset] [(.int (3 : Int32)), (.long raw), (.int sel), (.int (3 : Int32)), (.ref b121)]))
  obtain ⟨_, _, ⟨T128, L128, k128, n128⟩, -, X128, ⟨Lc128, hQ128, l128, y128, z128⟩, st128⟩ := Jvm.LawKit.callS X127 hx (y := (⟨"com/example/facet/facet/xml/MarkupScannerPlainUntilPinLaw", "pick", "(IJI)B"⟩ : MethodName)) hown (mvT hZ (hw _ (List.mem_of_getElem? (i := 1) rfl))) (mvT hZ (hw _ (List.mem_of_getElem? (i := 2) rfl))) (mvT hZ (hw _ (List.mem_of_getElem? (i := 3) rfl))) (mvT hZ (hw _ (List.mem_of_getElem? (i := 4) rfl))) (by decide) (backOf (W := 2) (rm1 l Z a0 hw [] sel raw (3 : Int32) h127) hZ (hw _ (List.mem_of_getElem? (i := 4) rfl)) (hw _ (List.mem_of_getElem? (i := 3) rfl)) (by decide) (by decide)) (g := (mkF m 42 #[.val (.int sel), .val (.long raw), .second, .val (.int ua), .val (.int uc), .val (.ref b121), .unset, .unset, .unset, .unset] [(.int (3 : Int32)), (.long raw), (.int sel), (.int (3 : Int32)), (.ref b121)])) rfl (by rw [hml]; rfl) (argsL := [(.int sel), (.long raw), (.int (3 : Int32))]) (rest := [(.int (3 : Int32)), (.ref b121)]) (lenOf pd_2 rfl) rfl (by show 2 * 0 + _ ≤ _; exact Nat.le_of_eq rfl) (hb hby at_42) (fun _ _ => ⟨rfl, e127, (by decide : 1 + 0 ≤ _), (by decide : 6 + 0 ≤ _)⟩)
  dsimp only [Pt.U, Pt.locs, Pt.cells, Pt.slots] at X128 l128 y128 z128 st128 hQ128
  subst l128 y128 z128
  obtain ⟨rfl, rfl, e128⟩ := hQ128
  have NF := Fr.app NF (Fr.nil n0)
  refine Gl.go ?_ st128
  show Gl _ _ _ _ (T128.setTop (mkF m 45 #[.val (.int sel), .val (.long raw), .second, .val (.int ua), .val (.int uc), .val (.ref b121), .unset, .unset, .unset, .unset] [(.int (f_pick sel raw (3 : Int32))), (.int (3 : Int32)), (.ref b121)]))
  obtain ⟨cl129, Ar129, q129, S129, N129, Hh129, G129⟩ := V_b121
  obtain ⟨T129, h129, X129, e129, W129, st129⟩ := stB X128 hx hZ e128 Ar129 (j := (3 : Int32)) (inb_of S129 ⟨by decide, by decide⟩) (g := (mkF m 45 #[.val (.int sel), .val (.long raw), .second, .val (.int ua), .val (.int uc), .val (.ref b121), .unset, .unset, .unset, .unset] [(.int (f_pick sel raw (3 : Int32))), (.int (3 : Int32)), (.ref b121)])) rfl rfl (hb hby at_45)
  have Z0 := Nat.le_trans Z0 (Keep.of_wr W129).1
  have V_b121 : Arv Z h129 b121 k121 .byte (6 : Int32) [(.int (nar .byte (f_pick sel raw (0 : Int32)))), (.int (nar .byte (f_pick sel raw (1 : Int32)))), (.int (nar .byte (f_pick sel raw (2 : Int32)))), (.int (nar .byte (f_pick sel raw (3 : Int32)))), (.int (0 : Int32)), (.int (0 : Int32))] (.int (0 : Int32)) := Arv.set Ar129 q129 S129 N129 Hh129 G129 (fits_nar_byte _) W129 3 rfl (Nat.le_of_ble_eq_true rfl)
  have NF := Fr.snoc X129 NF g_b121
  refine Gl.go ?_ st129
  show Gl _ _ _ _ (T129.setTop (mkF m 46 #[.val (.int sel), .val (.long raw), .second, .val (.int ua), .val (.int uc), .val (.ref b121), .unset, .unset, .unset, .unset] []))
  refine Gl.go ?_ (fun t k => XS.aload X129.here hx rfl (hb hby at_46) rfl rfl k)
  show Gl _ _ _ _ (T129.setTop (mkF m 48 #[.val (.int sel), .val (.long raw), .second, .val (.int ua), .val (.int uc), .val (.ref b121), .unset, .unset, .unset, .unset] [(.ref b121)]))
  refine Gl.go ?_ (fun t k => XS.iconst X129.here hx rfl (hb hby at_48) k)
  show Gl _ _ _ _ (T129.setTop (mkF m 49 #[.val (.int sel), .val (.long raw), .second, .val (.int ua), .val (.int uc), .val (.ref b121), .unset, .unset, .unset, .unset] [(.int (4 : Int32)), (.ref b121)]))
  refine Gl.go ?_ (fun t k => XS.iloadN X129.here hx rfl (hb hby at_49) rfl k)
  show Gl _ _ _ _ (T129.setTop (mkF m 50 #[.val (.int sel), .val (.long raw), .second, .val (.int ua), .val (.int uc), .val (.ref b121), .unset, .unset, .unset, .unset] [(.int sel), (.int (4 : Int32)), (.ref b121)]))
  refine Gl.go ?_ (fun t k => XS.lloadN X129.here hx rfl (hb hby at_50) rfl k)
  show Gl _ _ _ _ (T129.setTop (mkF m 51 #[.val (.int sel), .val (.long raw), .second, .val (.int ua), .val (.int uc), .val (.ref b121), .unset, .unset, .unset, .unset] [(.long raw), (.int sel), (.int (4 : Int32)), (.ref b121)]))
  refine Gl.go ?_ (fun t k => XS.iconst X129.here hx rfl (hb hby at_51) k)
  show Gl _ _ _ _ (T129.setTop (mkF m 52 #[.val (.int sel), .val (.long raw), .second, .val (.int ua), .val (.int uc), .val (.ref b121), .unset, .unset, .unset, .unset] [(.int (4 : Int32)), (.long raw), (.int sel), (.int (4 : Int32)), (.ref b121)]))
  obtain ⟨_, _, ⟨T130, L130, k130, n130⟩, -, X130, ⟨Lc130, hQ130, l130, y130, z130⟩, st130⟩ := Jvm.LawKit.callS X129 hx (y := (⟨"com/example/facet/facet/xml/MarkupScannerPlainUntilPinLaw", "pick", "(IJI)B"⟩ : MethodName)) hown (mvT hZ (hw _ (List.mem_of_getElem? (i := 1) rfl))) (mvT hZ (hw _ (List.mem_of_getElem? (i := 2) rfl))) (mvT hZ (hw _ (List.mem_of_getElem? (i := 3) rfl))) (mvT hZ (hw _ (List.mem_of_getElem? (i := 4) rfl))) (by decide) (backOf (W := 2) (rm1 l Z a0 hw [] sel raw (4 : Int32) h129) hZ (hw _ (List.mem_of_getElem? (i := 4) rfl)) (hw _ (List.mem_of_getElem? (i := 3) rfl)) (by decide) (by decide)) (g := (mkF m 52 #[.val (.int sel), .val (.long raw), .second, .val (.int ua), .val (.int uc), .val (.ref b121), .unset, .unset, .unset, .unset] [(.int (4 : Int32)), (.long raw), (.int sel), (.int (4 : Int32)), (.ref b121)])) rfl (by rw [hml]; rfl) (argsL := [(.int sel), (.long raw), (.int (4 : Int32))]) (rest := [(.int (4 : Int32)), (.ref b121)]) (lenOf pd_2 rfl) rfl (by show 2 * 0 + _ ≤ _; exact Nat.le_of_eq rfl) (hb hby at_52) (fun _ _ => ⟨rfl, e129, (by decide : 1 + 0 ≤ _), (by decide : 6 + 0 ≤ _)⟩)
  dsimp only [Pt.U, Pt.locs, Pt.cells, Pt.slots] at X130 l130 y130 z130 st130 hQ130
  subst l130 y130 z130
  obtain ⟨rfl, rfl, e130⟩ := hQ130
  have NF := Fr.app NF (Fr.nil n0)
  refine Gl.go ?_ st130
  show Gl _ _ _ _ (T130.setTop (mkF m 55 #[.val (.int sel), .val (.long raw), .second, .val (.int ua), .val (.int uc), .val (.ref b121), .unset, .unset, .unset, .unset] [(.int (f_pick sel raw (4 : Int32))), (.int (4 : Int32)), (.ref b121)]))
  obtain ⟨cl131, Ar131, q131, S131, N131, Hh131, G131⟩ := V_b121
  obtain ⟨T131, h131, X131, e131, W131, st131⟩ := stB X130 hx hZ e130 Ar131 (j := (4 : Int32)) (inb_of S131 ⟨by decide, by decide⟩) (g := (mkF m 55 #[.val (.int sel), .val (.long raw), .second, .val (.int ua), .val (.int uc), .val (.ref b121), .unset, .unset, .unset, .unset] [(.int (f_pick sel raw (4 : Int32))), (.int (4 : Int32)), (.ref b121)])) rfl rfl (hb hby at_55)
  have Z0 := Nat.le_trans Z0 (Keep.of_wr W131).1
  have V_b121 : Arv Z h131 b121 k121 .byte (6 : Int32) [(.int (nar .byte (f_pick sel raw (0 : Int32)))), (.int (nar .byte (f_pick sel raw (1 : Int32)))), (.int (nar .byte (f_pick sel raw (2 : Int32)))), (.int (nar .byte (f_pick sel raw (3 : Int32)))), (.int (nar .byte (f_pick sel raw (4 : Int32)))), (.int (0 : Int32))] (.int (0 : Int32)) := Arv.set Ar131 q131 S131 N131 Hh131 G131 (fits_nar_byte _) W131 4 rfl (Nat.le_of_ble_eq_true rfl)
  have NF := Fr.snoc X131 NF g_b121
  refine Gl.go ?_ st131
  show Gl _ _ _ _ (T131.setTop (mkF m 56 #[.val (.int sel), .val (.long raw), .second, .val (.int ua), .val (.int uc), .val (.ref b121), .unset, .unset, .unset, .unset] []))
  refine Gl.go ?_ (fun t k => XS.aload X131.here hx rfl (hb hby at_56) rfl rfl k)
  show Gl _ _ _ _ (T131.setTop (mkF m 58 #[.val (.int sel), .val (.long raw), .second, .val (.int ua), .val (.int uc), .val (.ref b121), .unset, .unset, .unset, .unset] [(.ref b121)]))
  refine Gl.go ?_ (fun t k => XS.iconst X131.here hx rfl (hb hby at_58) k)
  show Gl _ _ _ _ (T131.setTop (mkF m 59 #[.val (.int sel), .val (.long raw), .second, .val (.int ua), .val (.int uc), .val (.ref b121), .unset, .unset, .unset, .unset] [(.int (5 : Int32)), (.ref b121)]))
  refine Gl.go ?_ (fun t k => XS.iloadN X131.here hx rfl (hb hby at_59) rfl k)
  show Gl _ _ _ _ (T131.setTop (mkF m 60 #[.val (.int sel), .val (.long raw), .second, .val (.int ua), .val (.int uc), .val (.ref b121), .unset, .unset, .unset, .unset] [(.int sel), (.int (5 : Int32)), (.ref b121)]))
  refine Gl.go ?_ (fun t k => XS.lloadN X131.here hx rfl (hb hby at_60) rfl k)
  show Gl _ _ _ _ (T131.setTop (mkF m 61 #[.val (.int sel), .val (.long raw), .second, .val (.int ua), .val (.int uc), .val (.ref b121), .unset, .unset, .unset, .unset] [(.long raw), (.int sel), (.int (5 : Int32)), (.ref b121)]))
  refine Gl.go ?_ (fun t k => XS.iconst X131.here hx rfl (hb hby at_61) k)
  show Gl _ _ _ _ (T131.setTop (mkF m 62 #[.val (.int sel), .val (.long raw), .second, .val (.int ua), .val (.int uc), .val (.ref b121), .unset, .unset, .unset, .unset] [(.int (5 : Int32)), (.long raw), (.int sel), (.int (5 : Int32)), (.ref b121)]))
  obtain ⟨_, _, ⟨T132, L132, k132, n132⟩, -, X132, ⟨Lc132, hQ132, l132, y132, z132⟩, st132⟩ := Jvm.LawKit.callS X131 hx (y := (⟨"com/example/facet/facet/xml/MarkupScannerPlainUntilPinLaw", "pick", "(IJI)B"⟩ : MethodName)) hown (mvT hZ (hw _ (List.mem_of_getElem? (i := 1) rfl))) (mvT hZ (hw _ (List.mem_of_getElem? (i := 2) rfl))) (mvT hZ (hw _ (List.mem_of_getElem? (i := 3) rfl))) (mvT hZ (hw _ (List.mem_of_getElem? (i := 4) rfl))) (by decide) (backOf (W := 2) (rm1 l Z a0 hw [] sel raw (5 : Int32) h131) hZ (hw _ (List.mem_of_getElem? (i := 4) rfl)) (hw _ (List.mem_of_getElem? (i := 3) rfl)) (by decide) (by decide)) (g := (mkF m 62 #[.val (.int sel), .val (.long raw), .second, .val (.int ua), .val (.int uc), .val (.ref b121), .unset, .unset, .unset, .unset] [(.int (5 : Int32)), (.long raw), (.int sel), (.int (5 : Int32)), (.ref b121)])) rfl (by rw [hml]; rfl) (argsL := [(.int sel), (.long raw), (.int (5 : Int32))]) (rest := [(.int (5 : Int32)), (.ref b121)]) (lenOf pd_2 rfl) rfl (by show 2 * 0 + _ ≤ _; exact Nat.le_of_eq rfl) (hb hby at_62) (fun _ _ => ⟨rfl, e131, (by decide : 1 + 0 ≤ _), (by decide : 6 + 0 ≤ _)⟩)
  dsimp only [Pt.U, Pt.locs, Pt.cells, Pt.slots] at X132 l132 y132 z132 st132 hQ132
  subst l132 y132 z132
  obtain ⟨rfl, rfl, e132⟩ := hQ132
  have NF := Fr.app NF (Fr.nil n0)
  refine Gl.go ?_ st132
  show Gl _ _ _ _ (T132.setTop (mkF m 65 #[.val (.int sel), .val (.long raw), .second, .val (.int ua), .val (.int uc), .val (.ref b121), .unset, .unset, .unset, .unset] [(.int (f_pick sel raw (5 : Int32))), (.int (5 : Int32)), (.ref b121)]))
  obtain ⟨cl133, Ar133, q133, S133, N133, Hh133, G133⟩ := V_b121
  obtain ⟨T133, h133, X133, e133, W133, st133⟩ := stB X132 hx hZ e132 Ar133 (j := (5 : Int32)) (inb_of S133 ⟨by decide, by decide⟩) (g := (mkF m 65 #[.val (.int sel), .val (.long raw), .second, .val (.int ua), .val (.int uc), .val (.ref b121), .unset, .unset, .unset, .unset] [(.int (f_pick sel raw (5 : Int32))), (.int (5 : Int32)), (.ref b121)])) rfl rfl (hb hby at_65)
  have Z0 := Nat.le_trans Z0 (Keep.of_wr W133).1
  have V_b121 : Arv Z h133 b121 k121 .byte (6 : Int32) [(.int (nar .byte (f_pick sel raw (0 : Int32)))), (.int (nar .byte (f_pick sel raw (1 : Int32)))), (.int (nar .byte (f_pick sel raw (2 : Int32)))), (.int (nar .byte (f_pick sel raw (3 : Int32)))), (.int (nar .byte (f_pick sel raw (4 : Int32)))), (.int (nar .byte (f_pick sel raw (5 : Int32))))] (.int (0 : Int32)) := Arv.set Ar133 q133 S133 N133 Hh133 G133 (fits_nar_byte _) W133 5 rfl (Nat.le_of_ble_eq_true rfl)
  have NF := Fr.snoc X133 NF g_b121
  refine Gl.go ?_ st133
  show Gl _ _ _ _ (T133.setTop (mkF m 66 #[.val (.int sel), .val (.long raw), .second, .val (.int ua), .val (.int uc), .val (.ref b121), .unset, .unset, .unset, .unset] []))
  refine Gl.go ?_ (fun t k => XS.iload X133.here hx rfl (hb hby at_66) rfl k)
  show Gl _ _ _ _ (T133.setTop (mkF m 68 #[.val (.int sel), .val (.long raw), .second, .val (.int ua), .val (.int uc), .val (.ref b121), .unset, .unset, .unset, .unset] [(.int uc)]))
  refine Gl.go ?_ (X133.ldcInt hx hown (mvT hZ (hw _ (List.mem_of_getElem? (i := 5) rfl))) (g := (mkF m 68 #[.val (.int sel), .val (.long raw), .second, .val (.int ua), .val (.int uc), .val (.ref b121), .unset, .unset, .unset, .unset] [(.int uc)])) rfl (hb hby at_68))
  show Gl _ _ _ _ (T133.setTop (mkF m 70 #[.val (.int sel), .val (.long raw), .second, .val (.int ua), .val (.int uc), .val (.ref b121), .unset, .unset, .unset, .unset] [(.int (2147483647 : Int32)), (.int uc)]))
  refine Gl.go ?_ (fun t k => XS.iand X133.here hx rfl (hb hby at_70) rfl k)
  show Gl _ _ _ _ (T133.setTop (mkF m 71 #[.val (.int sel), .val (.long raw), .second, .val (.int ua), .val (.int uc), .val (.ref b121), .unset, .unset, .unset, .unset] [(.int (uc &&& (2147483647 : Int32)))]))
  refine Gl.go ?_ (fun t k => XS.bipush X133.here hx rfl (hb hby at_71) k)
  show Gl _ _ _ _ (T133.setTop (mkF m 73 #[.val (.int sel), .val (.long raw), .second, .val (.int ua), .val (.int uc), .val (.ref b121), .unset, .unset, .unset, .unset] [(.int (7 : Int32)), (.int (uc &&& (2147483647 : Int32)))]))
  refine Gl.go ?_ (fun t k => iremM X133 hx rfl (hb hby at_73) rfl (by decide) k)
  show Gl _ _ _ _ (T133.setTop (mkF m 74 #[.val (.int sel), .val (.long raw), .second, .val (.int ua), .val (.int uc), .val (.ref b121), .unset, .unset, .unset, .unset] [(.int ((uc &&& (2147483647 : Int32)) % (7 : Int32)))]))
  rw [hen]
  refine Gl.go ?_ (fun t k => XS.istore X133.here hx rfl (hb hby at_74) rfl (l' := #[.val (.int sel), .val (.long raw), .second, .val (.int ua), .val (.int uc), .val (.ref b121), .val (.int en), .unset, .unset, .unset]) rfl k)
  show Gl _ _ _ _ (T133.setTop (mkF m 76 #[.val (.int sel), .val (.long raw), .second, .val (.int ua), .val (.int uc), .val (.ref b121), .val (.int en), .unset, .unset, .unset] []))
  refine Gl.go ?_ (fun t k => XS.iloadN X133.here hx rfl (hb hby at_76) rfl k)
  show Gl _ _ _ _ (T133.setTop (mkF m 77 #[.val (.int sel), .val (.long raw), .second, .val (.int ua), .val (.int uc), .val (.ref b121), .val (.int en), .unset, .unset, .unset] [(.int ua)]))
  refine Gl.go ?_ (X133.ldcInt hx hown (mvT hZ (hw _ (List.mem_of_getElem? (i := 5) rfl))) (g := (mkF m 77 #[.val (.int sel), .val (.long raw), .second, .val (.int ua), .val (.int uc), .val (.ref b121), .val (.int en), .unset, .unset, .unset] [(.int ua)])) rfl (hb hby at_77))
  show Gl _ _ _ _ (T133.setTop (mkF m 79 #[.val (.int sel), .val (.long raw), .second, .val (.int ua), .val (.int uc), .val (.ref b121), .val (.int en), .unset, .unset, .unset] [(.int (2147483647 : Int32)), (.int ua)]))
  refine Gl.go ?_ (fun t k => XS.iand X133.here hx rfl (hb hby at_79) rfl k)
  show Gl _ _ _ _ (T133.setTop (mkF m 80 #[.val (.int sel), .val (.long raw), .second, .val (.int ua), .val (.int uc), .val (.ref b121), .val (.int en), .unset, .unset, .unset] [(.int (ua &&& (2147483647 : Int32)))]))
  refine Gl.go ?_ (fun t k => XS.iload X133.here hx rfl (hb hby at_80) rfl k)
  show Gl _ _ _ _ (T133.setTop (mkF m 82 #[.val (.int sel), .val (.long raw), .second, .val (.int ua), .val (.int uc), .val (.ref b121), .val (.int en), .unset, .unset, .unset] [(.int en), (.int (ua &&& (2147483647 : Int32)))]))
  refine Gl.go ?_ (fun t k => XS.iconst X133.here hx rfl (hb hby at_82) k)
  show Gl _ _ _ _ (T133.setTop (mkF m 83 #[.val (.int sel), .val (.long raw), .second, .val (.int ua), .val (.int uc), .val (.ref b121), .val (.int en), .unset, .unset, .unset] [(.int (1 : Int32)), (.int en), (.int (ua &&& (2147483647 : Int32)))]))
  refine Gl.go ?_ (fun t k => XS.iadd X133.here hx rfl (hb hby at_83) rfl k)
  show Gl _ _ _ _ (T133.setTop (mkF m 84 #[.val (.int sel), .val (.long raw), .second, .val (.int ua), .val (.int uc), .val (.ref b121), .val (.int en), .unset, .unset, .unset] [(.int (en + (1 : Int32))), (.int (ua &&& (2147483647 : Int32)))]))
  refine Gl.go ?_ (fun t k => iremM X133 hx rfl (hb hby at_84) rfl hnz k)
  show Gl _ _ _ _ (T133.setTop (mkF m 85 #[.val (.int sel), .val (.long raw), .second, .val (.int ua), .val (.int uc), .val (.ref b121), .val (.int en), .unset, .unset, .unset] [(.int ((ua &&& (2147483647 : Int32)) % (en + (1 : Int32))))]))
  rw [hfr]
  refine Gl.go ?_ (fun t k => XS.istore X133.here hx rfl (hb hby at_85) rfl (l' := #[.val (.int sel), .val (.long raw), .second, .val (.int ua), .val (.int uc), .val (.ref b121), .val (.int en), .val (.int fr), .unset, .unset]) rfl k)
  show Gl _ _ _ _ (T133.setTop (mkF m 87 #[.val (.int sel), .val (.long raw), .second, .val (.int ua), .val (.int uc), .val (.ref b121), .val (.int en), .val (.int fr), .unset, .unset] []))
  refine Gl.go ?_ (fun t k => XS.aload X133.here hx rfl (hb hby at_87) rfl rfl k)
  show Gl _ _ _ _ (T133.setTop (mkF m 89 #[.val (.int sel), .val (.long raw), .second, .val (.int ua), .val (.int uc), .val (.ref b121), .val (.int en), .val (.int fr), .unset, .unset] [(.ref b121)]))
  refine Gl.go ?_ (fun t k => XS.iload X133.here hx rfl (hb hby at_89) rfl k)
  show Gl _ _ _ _ (T133.setTop (mkF m 91 #[.val (.int sel), .val (.long raw), .second, .val (.int ua), .val (.int uc), .val (.ref b121), .val (.int en), .val (.int fr), .unset, .unset] [(.int fr), (.ref b121)]))
  refine Gl.go ?_ (fun t k => XS.iload X133.here hx rfl (hb hby at_91) rfl k)
  show Gl _ _ _ _ (T133.setTop (mkF m 93 #[.val (.int sel), .val (.long raw), .second, .val (.int ua), .val (.int uc), .val (.ref b121), .val (.int en), .val (.int fr), .unset, .unset] [(.int en), (.int fr), (.ref b121)]))
  have hB : BA Z h133 b121 .byte (6 : Int32) (own_bs sel raw) := BA.of [(nar .byte (f_pick sel raw (0 : Int32))), (nar .byte (f_pick sel raw (1 : Int32))), (nar .byte (f_pick sel raw (2 : Int32))), (nar .byte (f_pick sel raw (3 : Int32))), (nar .byte (f_pick sel raw (4 : Int32))), (nar .byte (f_pick sel raw (5 : Int32)))] V_b121 (Nat.le_of_eq rfl)
  obtain ⟨_, _, ⟨T134, L134, k134, n134⟩, -, X134, ⟨Lc134, hQ134, l134, y134, z134⟩, st134⟩ := Jvm.LawKit.callS X133 hx (y := (⟨"com/example/facet/facet/xml/MarkupScannerPlainUntilPinLaw", "expected", "([BII)I"⟩ : MethodName)) hown (mvT hZ (hw _ (List.mem_of_getElem? (i := 6) rfl))) (mvT hZ (hw _ (List.mem_of_getElem? (i := 7) rfl))) (mvT hZ (hw _ (List.mem_of_getElem? (i := 3) rfl))) (mvT hZ (hw _ (List.mem_of_getElem? (i := 8) rfl))) (by decide) (backOf (W := 0) (rm2 l Z a0 hw [] b121 fr en (own_bs sel raw) h133 hB hf hfe hE0 hE) hZ (hw _ (List.mem_of_getElem? (i := 8) rfl)) (hw _ (List.mem_of_getElem? (i := 3) rfl)) (by decide) (by decide)) (g := (mkF m 93 #[.val (.int sel), .val (.long raw), .second, .val (.int ua), .val (.int uc), .val (.ref b121), .val (.int en), .val (.int fr), .unset, .unset] [(.int en), (.int fr), (.ref b121)])) rfl (by rw [hml]; rfl) (argsL := [(.ref b121), (.int fr), (.int en)]) (rest := []) (lenOf pd_1 rfl) rfl (by show 2 * 0 + _ ≤ _; exact Nat.le_of_eq rfl) (hb hby at_93) (fun _ _ => ⟨rfl, e133, (by decide : 1 + 0 ≤ _), (by decide : 6 + 0 ≤ _)⟩)
  dsimp only [Pt.U, Pt.locs, Pt.cells, Pt.slots] at X134 l134 y134 z134 st134 hQ134
  subst l134 y134 z134
  obtain ⟨rfl, rfl, e134⟩ := hQ134
  have NF := Fr.app NF (Fr.nil n0)
  refine Gl.go ?_ st134
  show Gl _ _ _ _ (T134.setTop (mkF m 96 #[.val (.int sel), .val (.long raw), .second, .val (.int ua), .val (.int uc), .val (.ref b121), .val (.int en), .val (.int fr), .unset, .unset] [(.int (f_exp fr en (own_bs sel raw)))]))
  refine Gl.go ?_ (fun t k => XS.istore X134.here hx rfl (hb hby at_96) rfl (l' := #[.val (.int sel), .val (.long raw), .second, .val (.int ua), .val (.int uc), .val (.ref b121), .val (.int en), .val (.int fr), .val (.int (f_exp fr en (own_bs sel raw))), .unset]) rfl k)
  show Gl _ _ _ _ (T134.setTop (mkF m 98 #[.val (.int sel), .val (.long raw), .second, .val (.int ua), .val (.int uc), .val (.ref b121), .val (.int en), .val (.int fr), .val (.int (f_exp fr en (own_bs sel raw))), .unset] []))
  refine Gl.go ?_ (fun t k => XS.aload X134.here hx rfl (hb hby at_98) rfl rfl k)
  show Gl _ _ _ _ (T134.setTop (mkF m 100 #[.val (.int sel), .val (.long raw), .second, .val (.int ua), .val (.int uc), .val (.ref b121), .val (.int en), .val (.int fr), .val (.int (f_exp fr en (own_bs sel raw))), .unset] [(.ref b121)]))
  refine Gl.go ?_ (fun t k => XS.iload X134.here hx rfl (hb hby at_100) rfl k)
  show Gl _ _ _ _ (T134.setTop (mkF m 102 #[.val (.int sel), .val (.long raw), .second, .val (.int ua), .val (.int uc), .val (.ref b121), .val (.int en), .val (.int fr), .val (.int (f_exp fr en (own_bs sel raw))), .unset] [(.int fr), (.ref b121)]))
  refine Gl.go ?_ (fun t k => XS.iload X134.here hx rfl (hb hby at_102) rfl k)
  show Gl _ _ _ _ (T134.setTop (mkF m 104 #[.val (.int sel), .val (.long raw), .second, .val (.int ua), .val (.int uc), .val (.ref b121), .val (.int en), .val (.int fr), .val (.int (f_exp fr en (own_bs sel raw))), .unset] [(.int en), (.int fr), (.ref b121)]))
  obtain ⟨_, _, ⟨T135, L135, k135, n135⟩, -, X135, ⟨Lc135, hQ135, l135, y135, z135⟩, st135⟩ := Jvm.LawKit.callS X134 hx (y := (⟨"com/example/facet/facet/xml/MarkupScanner", "plainUntil", "([BII)I"⟩ : MethodName)) hown (mvT hZ (hw _ (List.mem_of_getElem? (i := 21) rfl))) (mvT hZ (hw _ (List.mem_of_getElem? (i := 22) rfl))) (mvT hZ (hw _ (List.mem_of_getElem? (i := 23) rfl))) (mvT hZ (hw _ (List.mem_of_getElem? (i := 24) rfl))) (by decide) (backOf (W := 0) (rm7 l Z a0 hw [] b121 fr en (own_bs sel raw) h133 hB hf hfe hE) hZ (hw _ (List.mem_of_getElem? (i := 24) rfl)) (hw _ (List.mem_of_getElem? (i := 23) rfl)) (by decide) (by decide)) (g := (mkF m 104 #[.val (.int sel), .val (.long raw), .second, .val (.int ua), .val (.int uc), .val (.ref b121), .val (.int en), .val (.int fr), .val (.int (f_exp fr en (own_bs sel raw))), .unset] [(.int en), (.int fr), (.ref b121)])) rfl (by rw [hml]; rfl) (argsL := [(.ref b121), (.int fr), (.int en)]) (rest := []) (lenOf pd_1 rfl) rfl (by show 2 * 0 + _ ≤ _; exact Nat.le_of_eq rfl) (hb hby at_104) (fun _ _ => ⟨rfl, e134, (by decide : 1 + 0 ≤ _), (by decide : 6 + 0 ≤ _)⟩)
  dsimp only [Pt.U, Pt.locs, Pt.cells, Pt.slots] at X135 l135 y135 z135 st135 hQ135
  subst l135 y135 z135
  obtain ⟨rfl, rfl, e135⟩ := hQ135
  have NF := Fr.app NF (Fr.nil n0)
  refine Gl.go ?_ st135
  show Gl _ _ _ _ (T135.setTop (mkF m 107 #[.val (.int sel), .val (.long raw), .second, .val (.int ua), .val (.int uc), .val (.ref b121), .val (.int en), .val (.int fr), .val (.int (f_exp fr en (own_bs sel raw))), .unset] [(.int (f_pl fr en (own_bs sel raw)))]))
  refine Gl.go ?_ (fun t k => XS.istore X135.here hx rfl (hb hby at_107) rfl (l' := #[.val (.int sel), .val (.long raw), .second, .val (.int ua), .val (.int uc), .val (.ref b121), .val (.int en), .val (.int fr), .val (.int (f_exp fr en (own_bs sel raw))), .val (.int (f_pl fr en (own_bs sel raw)))]) rfl k)
  show Gl _ _ _ _ (T135.setTop (mkF m 109 #[.val (.int sel), .val (.long raw), .second, .val (.int ua), .val (.int uc), .val (.ref b121), .val (.int en), .val (.int fr), .val (.int (f_exp fr en (own_bs sel raw))), .val (.int (f_pl fr en (own_bs sel raw)))] []))
  refine Gl.go ?_ (fun t k => XS.iload X135.here hx rfl (hb hby at_109) rfl k)
  show Gl _ _ _ _ (T135.setTop (mkF m 111 #[.val (.int sel), .val (.long raw), .second, .val (.int ua), .val (.int uc), .val (.ref b121), .val (.int en), .val (.int fr), .val (.int (f_exp fr en (own_bs sel raw))), .val (.int (f_pl fr en (own_bs sel raw)))] [(.int (f_pl fr en (own_bs sel raw)))]))
  refine Gl.go ?_ (fun t k => XS.iload X135.here hx rfl (hb hby at_111) rfl k)
  show Gl _ _ _ _ (T135.setTop (mkF m 113 #[.val (.int sel), .val (.long raw), .second, .val (.int ua), .val (.int uc), .val (.ref b121), .val (.int en), .val (.int fr), .val (.int (f_exp fr en (own_bs sel raw))), .val (.int (f_pl fr en (own_bs sel raw)))] [(.int (f_exp fr en (own_bs sel raw))), (.int (f_pl fr en (own_bs sel raw)))]))
  refine Gl.go ?_ (fun t k => XS.icmpNo X135.here hx rfl (hb hby at_113) rfl (teq (own_law _ hf hfe hE0 hE)).2 k)
  show Gl _ _ _ _ (T135.setTop (mkF m 116 #[.val (.int sel), .val (.long raw), .second, .val (.int ua), .val (.int uc), .val (.ref b121), .val (.int en), .val (.int fr), .val (.int (f_exp fr en (own_bs sel raw))), .val (.int (f_pl fr en (own_bs sel raw)))] []))
  refine Gl.go ?_ (fun t k => XS.iconst X135.here hx rfl (hb hby at_116) k)
  show Gl _ _ _ _ (T135.setTop (mkF m 117 #[.val (.int sel), .val (.long raw), .second, .val (.int ua), .val (.int uc), .val (.ref b121), .val (.int en), .val (.int fr), .val (.int (f_exp fr en (own_bs sel raw))), .val (.int (f_pl fr en (own_bs sel raw)))] [(.int (1 : Int32))]))
  refine Gl.go ?_ (fun t k => XS.goto X135.here hx rfl (pc0 := 117) (pc' := 121) rfl (hb hby at_117) (by decide) (by decide) k)
  show Gl _ _ _ _ (T135.setTop (mkF m 121 #[.val (.int sel), .val (.long raw), .second, .val (.int ua), .val (.int uc), .val (.ref b121), .val (.int en), .val (.int fr), .val (.int (f_exp fr en (own_bs sel raw))), .val (.int (f_pl fr en (own_bs sel raw)))] [(.int (1 : Int32))]))
  obtain ⟨fs, hr, hrun, hended, hW, hsame⟩ := X135.leave (v := some (.int (1 : Int32))) (fun h => by rw [Bd.returns] at h; cases h) (BodyLoose.notSynchronized Bd)
  exact Gl.mk ⟨_, _, retN X135 hx (t := .boolean) Bd.returns (by simp) (hb hby at_121) hr, hrun, hended, _, _, rfl, ⟨congrArg (fun z => some (Value.int z)) (rfl).symm, NF⟩, ⟨_, rfl⟩, hW, hsame.mono (by decide) (by decide)⟩
theorem own_one (sel : Int32) (raw : Int64) (fr en : Int32) : f_law sel raw fr en = 1 := rfl
set_option maxRecDepth 65536 in
set_option maxHeartbeats 40000000 in
theorem comes_1 {Post : Tables → Env → Array Value → State → Outcome → State → Prop} (hpost : ∀ tb e args s v u, (limb_1_1.after args s (.returned v) u = true ∧ limb_1_2.after args s (.returned v) u = true ∧ True) → FrameEnd s (.returned v) u (Jvm.fieldLocs frame_1_writes args s ++ Jvm.arrayLocs frame_1_arrays args s ++ Jvm.staticLocs frame_1_statics s) 16 128 → Post tb e args s (.returned v) u) :
    ArmFor flags0 classFile x code maxLocals ret World_1 tables_1 room_1 Calls_1 rest_1 Pre_1 Post := by
  intro l hfl _ _ p e ha hc hk s m args below hf hA hF happ hP
  obtain ⟨hcalls, hrest, hpre⟩ := hP
  obtain ⟨-, -, -, hnamed, -, -, -, hat⟩ := (Spec.applies_iff hf).mp happ
  obtain ⟨hg, hn⟩ := and_e (Cond.before_iff.mp (show (Jvm.Cond.and given_1 narrow_1).before args s = true from hpre))
  obtain ⟨g1, g2⟩ := and_e hg
  obtain ⟨g3, g4⟩ := and_e g2
  obtain ⟨g5, g6⟩ := and_e g4
  obtain ⟨g7, g8⟩ := and_e g6
  obtain ⟨w0, w1, w2, w3, rfl⟩ : ∃ w0 w1 w2 w3 : Value, args = #[w0, w1, w2, w3] := by
    have hs : args.size = 4 := by simpa [Cond.value, given_1] using g1
    obtain ⟨L⟩ := args
    match L, hs with
    | [w0, w1, w2, w3], _ => exact ⟨w0, w1, w2, w3, rfl⟩
  have hw := fun d (hd : d ∈ tables_1) => atoms_spec (ws := Jvm.Cond.code x code maxLocals ret :: tables_1) hat d (List.mem_cons_of_mem _ hd)
  have hfit : Fit s := fun {y c} hc i hi => by
    obtain ⟨ha, rfl⟩ := Array.getElem?_eq_some_iff.mp hc
    have q := List.all_eq_true.mp ((Array.all_eq_true_iff_forall_mem.mp hF) _ (Array.getElem_mem ha)) i (List.mem_range.mpr hi)
    simpa [Array.getElem?_eq_getElem hi] using q
  obtain ⟨i0, ei0⟩ := is_v g3
  obtain rfl : w0 = (.int i0) := Option.some.inj ei0
  obtain ⟨i1, ei1⟩ := isL_v g5
  obtain rfl : w1 = (.long i1) := Option.some.inj ei1
  obtain ⟨i2, ei2⟩ := is_v g7
  obtain rfl : w2 = (.int i2) := Option.some.inj ei2
  obtain ⟨i3, ei3⟩ := is_v g8
  obtain rfl : w3 = (.int i3) := Option.some.inj ei3
  obtain ⟨fr, en, hen, hnz, hfr, hf9, hfe, hE0, hE⟩ := own_args i2 i3
  obtain ⟨n, o, h1, h2, h3, _, L, rfl, ⟨rfl, N⟩, hq⟩ := rm0 l s _ hw tables_1 i0 i1 i2 i3 fr en s.heap s.heap.size (Nat.le_refl _) hen hnz hfr hf9 hfe hE0 hE p e ha hc hk s m _ below hf ((Spec.applies_iff_loose hf).mp happ).1 ⟨rfl, State.Warmed39.refl s, rfl⟩ trivial
  refine ⟨n, _, h1, h2, h3, hpost _ _ _ _ _ _ ⟨Cond.after_iff.mpr rfl, Cond.after_iff.mpr (eq_i res_at (Term.int_eval (1)) (congrArg Value.int (own_one _ _ _ _))), trivial⟩ ⟨hq.1, hq.2.1, (hq.2.2.sift fun y hy => Or.inr (N y hy)).mono (by decide) (by decide)⟩⟩
theorem main_1_1 : Claimed_1_1 := comes_1 fun _ _ _ _ _ _ h hF => ⟨h.1, hF⟩
theorem main_1_2 : Claimed_1_2 := comes_1 fun _ _ _ _ _ _ h hF => ⟨h.2.1, hF⟩
end Jvm.Pilot.@@N@@
namespace Jvm.Pilot.@@N@@
open Jvm Jvm.ClassFile Sem Op Lib Jvm.Free Jvm.Stand Jvm.Pilot.@@N@@.Jvm.D
/-! MADE BY PROGRAM (witnessworld.py) out of the Statement's table words and the real class files: 9 classes; the members and pool entries that the words name. The judged class is class 1, her method 1. -/
namespace start1
open Jvm.ClassFile
def u (s : String) : CpInfo := .utf8 (stringToUtf16 s)
/-- a pool by its gaps: so many unusable entries, then the entry; so many at the end -/
def gap : Nat → List CpInfo → List CpInfo
  | 0, r => r
  | n + 1, r => .unusable :: gap n r
def poolList (es : List (Nat × CpInfo)) (last : Nat) : List CpInfo := es.foldr (fun e r => gap e.1 (e.2 :: r)) (gap last [])
def pool (es : List (Nat × CpInfo)) (last : Nat) : Array CpInfo := ⟨poolList es last⟩
def fileOf (pool : Array CpInfo) (this : Nat) (attrs : Array Attribute := #[]) (ms : Array MethodInfo := #[]) (fl : Nat := 33) (sup : Nat := 0) (ifs : Array Nat := #[]) (fds : Array FieldInfo := #[]) : ClassFile where
  minorVersion := 0
  majorVersion := 65
  constantPool := pool
  accessFlags := fl
  thisClass := this
  superClass := sup
  interfaces := ifs
  fields := fds
  methods := ms
  attributes := attrs
def plain (name : String) (sup : Option ClassId) : Class where
  name := name
  kind := .ordinary
  loader := none
  accessFlags := 33
  super := sup
  interfaces := #[]
  cf := none
  fields := #[]
  methods := #[]
  instanceTypes := #[]
  staticTypes := #[]
  resolved := #[]
  callSites := []
  init := .initialized
  statics := none
  mirror := none

def pool0 : Array CpInfo := pool [(5, u "<init>"), (0, u "()V"), (1, .class_ 10), (1, u "java/lang/Object")] 113

def k0m0 : Method := { name := "<init>", desc := "()V", sig := { parameters := [], returnType := none }, accessFlags := 1, code := none }
/-- java/lang/Object -/
def k0 : Class := { plain "java/lang/Object" none with
  accessFlags := 33
  interfaces := #[]
  cf := some (fileOf pool0 8 #[] #[{ accessFlags := 1, nameIndex := 5, descriptorIndex := 6, attributes := #[] }] 33 0 #[] #[])
  fields := #[]
  methods := #[k0m0]
  instanceTypes := #[]
  staticTypes := #[]
  resolved := Array.replicate 124 none
  statics := none }

def pool1 : Array CpInfo := pool [(2, .class_ 4), (1, u "java/lang/Object"), (0, u "<init>"), (0, u "()V"), (0, .methodref 8 9), (0, .class_ 10), (0, .nameAndType 11 12), (0, u "com/example/facet/facet/xml/MarkupScannerPlainUntilPinLaw"), (0, u "pick"), (0, u "(IJI)B"), (0, .integer 2147483647), (0, .methodref 8 15), (0, .nameAndType 16 17), (0, u "expected"), (0, u "([BII)I"), (0, .methodref 19 20), (0, .class_ 21), (0, .nameAndType 22 17), (0, u "com/example/facet/facet/xml/MarkupScanner"), (0, u "plainUntil"), (0, .methodref 8 24), (0, .nameAndType 25 26), (0, u "lt"), (0, u "([BII)Z"), (0, .methodref 8 28), (0, .nameAndType 29 26), (0, u "closes"), (0, .methodref 8 31), (0, .nameAndType 32 17), (0, u "firstLt"), (0, .methodref 8 34), (0, .nameAndType 35 17), (0, u "trim"), (0, .methodref 8 37), (0, .nameAndType 38 26), (0, u "stops"), (2, u "law"), (0, u "(IJII)Z")] 5

def k1m0 : Method := { name := "<init>", desc := "()V", sig := { parameters := [], returnType := none }, accessFlags := 2, code := none }
def k1c1 : Code := { maxStack := 6, maxLocals := 10, code := code, exceptionTable := #[], attributes := #[] }
def k1m1 : Method := { name := "law", desc := "(IJII)Z", sig := { parameters := [.int, .long, .int, .int], returnType := some .boolean }, accessFlags := 9, code := some k1c1 }
def k1c2 : Code := { maxStack := 4, maxLocals := 5, code := method_3_code, exceptionTable := #[], attributes := #[] }
def k1m2 : Method := { name := "pick", desc := "(IJI)B", sig := { parameters := [.int, .long, .int], returnType := some .byte }, accessFlags := 10, code := some k1c2 }
def k1c3 : Code := { maxStack := 2, maxLocals := 3, code := method_4_code, exceptionTable := #[], attributes := #[] }
def k1m3 : Method := { name := "lt", desc := "([BII)Z", sig := { parameters := [(.array .byte), .int, .int], returnType := some .boolean }, accessFlags := 10, code := some k1c3 }
def k1c4 : Code := { maxStack := 3, maxLocals := 3, code := method_5_code, exceptionTable := #[], attributes := #[] }
def k1m4 : Method := { name := "firstLt", desc := "([BII)I", sig := { parameters := [(.array .byte), .int, .int], returnType := some .int }, accessFlags := 10, code := some k1c4 }
def k1c5 : Code := { maxStack := 3, maxLocals := 3, code := method_6_code, exceptionTable := #[], attributes := #[] }
def k1m5 : Method := { name := "stops", desc := "([BII)Z", sig := { parameters := [(.array .byte), .int, .int], returnType := some .boolean }, accessFlags := 10, code := some k1c5 }
def k1c6 : Code := { maxStack := 3, maxLocals := 3, code := method_7_code, exceptionTable := #[], attributes := #[] }
def k1m6 : Method := { name := "closes", desc := "([BII)Z", sig := { parameters := [(.array .byte), .int, .int], returnType := some .boolean }, accessFlags := 10, code := some k1c6 }
def k1c7 : Code := { maxStack := 3, maxLocals := 4, code := method_8_code, exceptionTable := #[], attributes := #[] }
def k1m7 : Method := { name := "trim", desc := "([BII)I", sig := { parameters := [(.array .byte), .int, .int], returnType := some .int }, accessFlags := 10, code := some k1c7 }
def k1c8 : Code := { maxStack := 3, maxLocals := 6, code := method_9_code, exceptionTable := #[], attributes := #[] }
def k1m8 : Method := { name := "expected", desc := "([BII)I", sig := { parameters := [(.array .byte), .int, .int], returnType := some .int }, accessFlags := 10, code := some k1c8 }
/-- com/example/facet/facet/xml/MarkupScannerPlainUntilPinLaw -/
def k1 : Class := { plain "com/example/facet/facet/xml/MarkupScannerPlainUntilPinLaw" (some 0) with
  accessFlags := 49
  interfaces := #[]
  cf := some (fileOf pool1 8 #[] #[{ accessFlags := 2, nameIndex := 5, descriptorIndex := 6, attributes := #[] }, { accessFlags := 9, nameIndex := 41, descriptorIndex := 42, attributes := #[] }, { accessFlags := 10, nameIndex := 11, descriptorIndex := 12, attributes := #[] }, { accessFlags := 10, nameIndex := 25, descriptorIndex := 26, attributes := #[] }, { accessFlags := 10, nameIndex := 32, descriptorIndex := 17, attributes := #[] }, { accessFlags := 10, nameIndex := 38, descriptorIndex := 26, attributes := #[] }, { accessFlags := 10, nameIndex := 29, descriptorIndex := 26, attributes := #[] }, { accessFlags := 10, nameIndex := 35, descriptorIndex := 17, attributes := #[] }, { accessFlags := 10, nameIndex := 16, descriptorIndex := 17, attributes := #[] }] 49 2 #[] #[])
  fields := #[]
  methods := #[k1m0, k1m1, k1m2, k1m3, k1m4, k1m5, k1m6, k1m7, k1m8]
  instanceTypes := #[]
  staticTypes := #[]
  resolved := Array.replicate 48 none
  statics := none }

def pool2 : Array CpInfo := pool [(2, .class_ 4), (1, u "java/lang/Object"), (0, u "<init>"), (0, u "()V"), (1, .class_ 10), (1, u "com/example/facet/facet/xml/MarkupScanner$State"), (1, u "Lcom/example/facet/facet/xml/MarkupScanner$State;"), (1, .class_ 16), (1, u "com/example/facet/facet/xml/MarkupScanner"), (0, u "state"), (2, u "resume"), (1, .class_ 24), (1, u "com/example/facet/facet/xml/MarkupScanner$Declaration"), (1, u "Lcom/example/facet/facet/xml/MarkupScanner$Declaration;"), (2, u "declaration"), (5, u "declared"), (0, u "Ljava/lang/StringBuilder;"), (8, u "encoding"), (0, u "Ljava/util/Optional;"), (2, u "passed"), (0, u "Lcom/example/facet/facet/xml/MarkupScanner$Construct;"), (3, u "Z"), (19, u "length"), (0, u "I"), (2, u "run"), (16, .class_ 96), (0, u "com/example/facet/facet/xml/MarkupScanner$TooLong"), (15, u "quote"), (0, u "C"), (1, .class_ 117), (1, u "com/example/facet/facet/xml/MarkupScanner$Construct"), (14, u "measured"), (2, u "marks"), (83, u "inSubset"), (7, u "COMMENT_STOPS"), (0, u "[Z"), (15, u "INSTRUCTION_STOPS"), (57, u "DOUBLE_QUOTE"), (2, u "SINGLE_QUOTE"), (7, u "DOCTYPE_STOPS"), (33, u "MAX_DECLARATION"), (2, u "WINDOW"), (1, u "ENCODING"), (0, u "Ljava/lang/String;"), (0, u "CDATA_START"), (8, u "plainUntil"), (0, u "([BII)I")] 32

def k2m0 : Method := { name := "<init>", desc := "()V", sig := { parameters := [], returnType := none }, accessFlags := 0, code := none }
def k2c1 : Code := { maxStack := 3, maxLocals := 7, code := prog_274_method_6_code, exceptionTable := #[], attributes := #[] }
def k2m1 : Method := { name := "plainUntil", desc := "([BII)I", sig := { parameters := [(.array .byte), .int, .int], returnType := some .int }, accessFlags := 8, code := some k2c1 }
/-- com/example/facet/facet/xml/MarkupScanner -/
def k2 : Class := { plain "com/example/facet/facet/xml/MarkupScanner" (some 0) with
  accessFlags := 32
  interfaces := #[]
  cf := some (fileOf pool2 14 #[.nestMembers #[95, 115, 22, 8]] #[{ accessFlags := 0, nameIndex := 5, descriptorIndex := 6, attributes := #[] }, { accessFlags := 8, nameIndex := 363, descriptorIndex := 364, attributes := #[] }] 32 2 #[] #[{ accessFlags := 26, nameIndex := 347, descriptorIndex := 75, attributes := #[] }, { accessFlags := 24, nameIndex := 350, descriptorIndex := 75, attributes := #[] }, { accessFlags := 26, nameIndex := 352, descriptorIndex := 353, attributes := #[] }, { accessFlags := 26, nameIndex := 354, descriptorIndex := 353, attributes := #[] }, { accessFlags := 26, nameIndex := 227, descriptorIndex := 228, attributes := #[] }, { accessFlags := 26, nameIndex := 244, descriptorIndex := 228, attributes := #[] }, { accessFlags := 26, nameIndex := 302, descriptorIndex := 228, attributes := #[] }, { accessFlags := 26, nameIndex := 305, descriptorIndex := 228, attributes := #[] }, { accessFlags := 26, nameIndex := 313, descriptorIndex := 228, attributes := #[] }, { accessFlags := 2, nameIndex := 17, descriptorIndex := 12, attributes := #[] }, { accessFlags := 2, nameIndex := 20, descriptorIndex := 12, attributes := #[] }, { accessFlags := 2, nameIndex := 132, descriptorIndex := 50, attributes := #[] }, { accessFlags := 2, nameIndex := 74, descriptorIndex := 75, attributes := #[] }, { accessFlags := 2, nameIndex := 78, descriptorIndex := 75, attributes := #[] }, { accessFlags := 2, nameIndex := 135, descriptorIndex := 75, attributes := #[] }, { accessFlags := 2, nameIndex := 112, descriptorIndex := 113, attributes := #[] }, { accessFlags := 2, nameIndex := 219, descriptorIndex := 54, attributes := #[] }, { accessFlags := 2, nameIndex := 49, descriptorIndex := 50, attributes := #[] }, { accessFlags := 2, nameIndex := 29, descriptorIndex := 26, attributes := #[] }, { accessFlags := 18, nameIndex := 35, descriptorIndex := 36, attributes := #[] }, { accessFlags := 2, nameIndex := 45, descriptorIndex := 46, attributes := #[] }])
  fields := #[{ name := "MAX_DECLARATION", type := .int, accessFlags := 26, slot := 0, constantValue := 0 }, { name := "WINDOW", type := .int, accessFlags := 24, slot := 1, constantValue := 0 }, { name := "ENCODING", type := (.object "java/lang/String"), accessFlags := 26, slot := 2, constantValue := 0 }, { name := "CDATA_START", type := (.object "java/lang/String"), accessFlags := 26, slot := 3, constantValue := 0 }, { name := "COMMENT_STOPS", type := (.array .boolean), accessFlags := 26, slot := 4, constantValue := 0 }, { name := "INSTRUCTION_STOPS", type := (.array .boolean), accessFlags := 26, slot := 5, constantValue := 0 }, { name := "DOUBLE_QUOTE", type := (.array .boolean), accessFlags := 26, slot := 6, constantValue := 0 }, { name := "SINGLE_QUOTE", type := (.array .boolean), accessFlags := 26, slot := 7, constantValue := 0 }, { name := "DOCTYPE_STOPS", type := (.array .boolean), accessFlags := 26, slot := 8, constantValue := 0 }, { name := "state", type := (.object "com/example/facet/facet/xml/MarkupScanner$State"), accessFlags := 2, slot := 0, constantValue := 0 }, { name := "resume", type := (.object "com/example/facet/facet/xml/MarkupScanner$State"), accessFlags := 2, slot := 1, constantValue := 0 }, { name := "measured", type := (.object "com/example/facet/facet/xml/MarkupScanner$Construct"), accessFlags := 2, slot := 2, constantValue := 0 }, { name := "length", type := .int, accessFlags := 2, slot := 3, constantValue := 0 }, { name := "run", type := .int, accessFlags := 2, slot := 4, constantValue := 0 }, { name := "marks", type := .int, accessFlags := 2, slot := 5, constantValue := 0 }, { name := "quote", type := .char, accessFlags := 2, slot := 6, constantValue := 0 }, { name := "inSubset", type := .boolean, accessFlags := 2, slot := 7, constantValue := 0 }, { name := "passed", type := (.object "com/example/facet/facet/xml/MarkupScanner$Construct"), accessFlags := 2, slot := 8, constantValue := 0 }, { name := "declaration", type := (.object "com/example/facet/facet/xml/MarkupScanner$Declaration"), accessFlags := 2, slot := 9, constantValue := 0 }, { name := "declared", type := (.object "java/lang/StringBuilder"), accessFlags := 18, slot := 10, constantValue := 0 }, { name := "encoding", type := (.object "java/util/Optional"), accessFlags := 2, slot := 11, constantValue := 0 }]
  methods := #[k2m0, k2m1]
  instanceTypes := #[(.object "com/example/facet/facet/xml/MarkupScanner$State"), (.object "com/example/facet/facet/xml/MarkupScanner$State"), (.object "com/example/facet/facet/xml/MarkupScanner$Construct"), .int, .int, .int, .char, .boolean, (.object "com/example/facet/facet/xml/MarkupScanner$Construct"), (.object "com/example/facet/facet/xml/MarkupScanner$Declaration"), (.object "java/lang/StringBuilder"), (.object "java/util/Optional")]
  staticTypes := #[.int, .int, (.object "java/lang/String"), (.object "java/lang/String"), (.array .boolean), (.array .boolean), (.array .boolean), (.array .boolean), (.array .boolean)]
  resolved := Array.replicate 397 none
  statics := none }

def pool3 : Array CpInfo := pool [(1, u "java/lang/Cloneable"), (0, .class_ 1), (0, u "java/lang/Object"), (0, .class_ 3)] 3

/-- java/lang/Cloneable -/
def k3 : Class := { plain "java/lang/Cloneable" (some 0) with
  accessFlags := 1537
  interfaces := #[]
  cf := some (fileOf pool3 2 #[] #[] 1537 4 #[] #[])
  fields := #[]
  methods := #[]
  instanceTypes := #[]
  staticTypes := #[]
  resolved := Array.replicate 8 none
  statics := none }

def pool4 : Array CpInfo := pool [(1, u "java/io/Serializable"), (0, .class_ 1), (0, u "java/lang/Object"), (0, .class_ 3)] 3

/-- java/io/Serializable -/
def k4 : Class := { plain "java/io/Serializable" (some 0) with
  accessFlags := 1537
  interfaces := #[]
  cf := some (fileOf pool4 2 #[] #[] 1537 4 #[] #[])
  fields := #[]
  methods := #[]
  instanceTypes := #[]
  staticTypes := #[]
  resolved := Array.replicate 8 none
  statics := none }

/-- the primitive byte -/
def k5 : Class := { plain "byte" none with kind := .primitive 'B', accessFlags := 0x411 }
/-- [B -/
def k6 : Class := { plain "[B" (some 0) with kind := .array 5 .byte, interfaces := #[3, 4], accessFlags := 1041 }

/-- the primitive int -/
def k7 : Class := { plain "int" none with kind := .primitive 'I', accessFlags := 0x411 }
/-- [I -/
def k8 : Class := { plain "[I" (some 0) with kind := .array 7 .int, interfaces := #[3, 4], accessFlags := 1041 }

def heap : Heap := #[]
def classes : Array Class := #[k0, k1, k2, k3, k4, k5, k6, k7, k8]
def interned : List (Array UInt16 × Addr) := []
def slotsUsed : Nat := 0
def theMethod : MethodId := ⟨1, 1⟩
def args0 : Array Value := #[.int 5, .long 6, .int 7, .int 8]
def aboutOver (below : List Frame) : State where
  vm := { classes := classes, interned := interned.toArray }
  heap := heap
  slotsUsed := slotsUsed
  threads := #[{ frames := .invoking theMethod args0 :: below }]
def below0 : List Frame := [.native { method := ⟨0, 0⟩, args := #[] }]
def about1 : State := aboutOver below0
def p0 : Program := .bare "" "" ""
def e0 : Env := launch0.env 0 0 0
theorem w_frames : about1.frames = Frame.invoking theMethod args0 :: below0 := rfl
set_option maxRecDepth 65536 in
theorem w_args : argsFit about1.vm theMethod args0 = true := by decide +kernel
set_option maxRecDepth 65536 in
theorem w_heap : heapFits about1 = true := by decide +kernel
set_option maxRecDepth 65536 in
theorem w_runnable : about1.curStatus? = some .runnable := by decide +kernel
set_option maxRecDepth 65536 in
theorem w_alone : about1.alone = true := by decide +kernel
set_option maxRecDepth 65536 in
theorem w_named : about1.methodNamed? x = some theMethod := by decide +kernel
set_option maxRecDepth 65536 in
theorem w_hears : about1.hears theMethod below0 = true := by decide +kernel
set_option maxRecDepth 65536 in
theorem w_ripe : about1.ripe theMethod args0 below0 = true := by decide +kernel
theorem w_running : about1.status = .running := rfl
set_option maxRecDepth 65536 in
theorem w_room : about1.hasRoom e0.platform room_1 = true :=
  launch0.hasRoom_least _ room_1 (by decide +kernel) (by decide +kernel) (by decide +kernel) (by decide +kernel) (by decide +kernel) (by decide +kernel)
theorem allAtoms_all (ts : List Jvm.Cond) (a : Array Jvm.Value) (st : Jvm.State) : (allAtoms ts).before a st = ts.all (fun c => c.before a st) := by
  induction ts with
  | nil => rfl
  | cons c t ih =>
    show (Jvm.Cond.and c (allAtoms t)).before a st = _
    rw [Jvm.Cond.before_and, ih, List.all_cons]
def words1 : List Jvm.Cond := Jvm.Cond.code x code maxLocals ret :: tables_1
/-- a 'code' word, met by the world's own term for the bytes: nothing is compared byte by byte -/
theorem code_word {y : MethodName} {bytes : ByteArray} {mx : Nat} {rt : Option FieldType} {a : Array Value} {s : State} {m : MethodId} {meth : Method} {c : Code} (h1 : s.methodNamed? y = some m) (h2 : s.vm.method? m = some meth) (h3 : meth.code = some c) (h4 : c.code = bytes)
    (h5 : (c.maxLocals == mx && c.exceptionTable.isEmpty && decide (c.maxStack ≤ mostOperands) && decide (meth.sig.returnType = rt) && !meth.locks && decide (parseMethodDescriptor y.desc = some meth.sig)) = true) : (Jvm.Cond.code y bytes mx rt).before a s = true := by
  simp only [Bool.and_eq_true, beq_iff_eq, Bool.not_eq_true', decide_eq_true_eq] at h5
  obtain ⟨⟨⟨⟨⟨g1, g2⟩, g3⟩, g4⟩, g5⟩, g6⟩ := h5
  simp [Cond.before, Cond.holds, Cond.value, h1, h2, h3, h4, g1, g2, g3, g4, g5, g6]
def isCode : Jvm.Cond → Bool
  | .code _ _ _ _ => true
  | _ => false
theorem all_split {L : List Jvm.Cond} {P : Jvm.Cond → Bool} (h1 : L.all (fun c => isCode c || P c) = true) (h2 : ∀ c ∈ L.filter isCode, P c = true) : L.all P = true := by
  refine List.all_eq_true.mpr fun c hc => ?_
  have h := List.all_eq_true.mp h1 c hc
  rcases Bool.eq_false_or_eq_true (isCode c) with hi | hi
  · exact h2 c (List.mem_filter.mpr ⟨hc, hi⟩)
  · simpa [hi] using h
set_option maxRecDepth 65536 in
theorem w_c0 : (Jvm.Cond.code x code maxLocals ret).before args0 about1 = true := code_word (m := ⟨1, 1⟩) (meth := k1m1) (c := k1c1) (by decide +kernel) rfl rfl rfl (by decide +kernel)
set_option maxRecDepth 65536 in
theorem w_c1 : (Jvm.Cond.code ({ cls := "com/example/facet/facet/xml/MarkupScannerPlainUntilPinLaw", name := "pick", desc := "(IJI)B" } : Jvm.MethodName) method_3_code (5 : Nat) (Option.some Jvm.ClassFile.FieldType.byte)).before args0 about1 = true := code_word (m := ⟨1, 2⟩) (meth := k1m2) (c := k1c2) (by decide +kernel) rfl rfl rfl (by decide +kernel)
set_option maxRecDepth 65536 in
theorem w_c2 : (Jvm.Cond.code ({ cls := "com/example/facet/facet/xml/MarkupScannerPlainUntilPinLaw", name := "expected", desc := "([BII)I" } : Jvm.MethodName) method_9_code (6 : Nat) (Option.some Jvm.ClassFile.FieldType.int)).before args0 about1 = true := code_word (m := ⟨1, 8⟩) (meth := k1m8) (c := k1c8) (by decide +kernel) rfl rfl rfl (by decide +kernel)
set_option maxRecDepth 65536 in
theorem w_c3 : (Jvm.Cond.code ({ cls := "com/example/facet/facet/xml/MarkupScannerPlainUntilPinLaw", name := "firstLt", desc := "([BII)I" } : Jvm.MethodName) method_5_code (3 : Nat) (Option.some Jvm.ClassFile.FieldType.int)).before args0 about1 = true := code_word (m := ⟨1, 4⟩) (meth := k1m4) (c := k1c4) (by decide +kernel) rfl rfl rfl (by decide +kernel)
set_option maxRecDepth 65536 in
theorem w_c4 : (Jvm.Cond.code ({ cls := "com/example/facet/facet/xml/MarkupScannerPlainUntilPinLaw", name := "lt", desc := "([BII)Z" } : Jvm.MethodName) method_4_code (3 : Nat) (Option.some Jvm.ClassFile.FieldType.boolean)).before args0 about1 = true := code_word (m := ⟨1, 3⟩) (meth := k1m3) (c := k1c3) (by decide +kernel) rfl rfl rfl (by decide +kernel)
set_option maxRecDepth 65536 in
theorem w_c5 : (Jvm.Cond.code ({ cls := "com/example/facet/facet/xml/MarkupScannerPlainUntilPinLaw", name := "trim", desc := "([BII)I" } : Jvm.MethodName) method_8_code (4 : Nat) (Option.some Jvm.ClassFile.FieldType.int)).before args0 about1 = true := code_word (m := ⟨1, 7⟩) (meth := k1m7) (c := k1c7) (by decide +kernel) rfl rfl rfl (by decide +kernel)
set_option maxRecDepth 65536 in
theorem w_c6 : (Jvm.Cond.code ({ cls := "com/example/facet/facet/xml/MarkupScannerPlainUntilPinLaw", name := "closes", desc := "([BII)Z" } : Jvm.MethodName) method_7_code (3 : Nat) (Option.some Jvm.ClassFile.FieldType.boolean)).before args0 about1 = true := code_word (m := ⟨1, 6⟩) (meth := k1m6) (c := k1c6) (by decide +kernel) rfl rfl rfl (by decide +kernel)
set_option maxRecDepth 65536 in
theorem w_c7 : (Jvm.Cond.code ({ cls := "com/example/facet/facet/xml/MarkupScanner", name := "plainUntil", desc := "([BII)I" } : Jvm.MethodName) prog_274_method_6_code (7 : Nat) (Option.some Jvm.ClassFile.FieldType.int)).before args0 about1 = true := code_word (m := ⟨2, 1⟩) (meth := k2m1) (c := k2c1) (by decide +kernel) rfl rfl rfl (by decide +kernel)
set_option maxRecDepth 65536 in
theorem w_c8 : (Jvm.Cond.code ({ cls := "com/example/facet/facet/xml/MarkupScannerPlainUntilPinLaw", name := "stops", desc := "([BII)Z" } : Jvm.MethodName) method_6_code (3 : Nat) (Option.some Jvm.ClassFile.FieldType.boolean)).before args0 about1 = true := code_word (m := ⟨1, 5⟩) (meth := k1m5) (c := k1c5) (by decide +kernel) rfl rfl rfl (by decide +kernel)
def codes1 : List Jvm.Cond := [Jvm.Cond.code x code maxLocals ret, Jvm.Cond.code ({ cls := "com/example/facet/facet/xml/MarkupScannerPlainUntilPinLaw", name := "pick", desc := "(IJI)B" } : Jvm.MethodName) method_3_code (5 : Nat) (Option.some Jvm.ClassFile.FieldType.byte), Jvm.Cond.code ({ cls := "com/example/facet/facet/xml/MarkupScannerPlainUntilPinLaw", name := "expected", desc := "([BII)I" } : Jvm.MethodName) method_9_code (6 : Nat) (Option.some Jvm.ClassFile.FieldType.int), Jvm.Cond.code ({ cls := "com/example/facet/facet/xml/MarkupScannerPlainUntilPinLaw", name := "firstLt", desc := "([BII)I" } : Jvm.MethodName) method_5_code (3 : Nat) (Option.some Jvm.ClassFile.FieldType.int), Jvm.Cond.code ({ cls := "com/example/facet/facet/xml/MarkupScannerPlainUntilPinLaw", name := "lt", desc := "([BII)Z" } : Jvm.MethodName) method_4_code (3 : Nat) (Option.some Jvm.ClassFile.FieldType.boolean), Jvm.Cond.code ({ cls := "com/example/facet/facet/xml/MarkupScannerPlainUntilPinLaw", name := "trim", desc := "([BII)I" } : Jvm.MethodName) method_8_code (4 : Nat) (Option.some Jvm.ClassFile.FieldType.int), Jvm.Cond.code ({ cls := "com/example/facet/facet/xml/MarkupScannerPlainUntilPinLaw", name := "closes", desc := "([BII)Z" } : Jvm.MethodName) method_7_code (3 : Nat) (Option.some Jvm.ClassFile.FieldType.boolean), Jvm.Cond.code ({ cls := "com/example/facet/facet/xml/MarkupScanner", name := "plainUntil", desc := "([BII)I" } : Jvm.MethodName) prog_274_method_6_code (7 : Nat) (Option.some Jvm.ClassFile.FieldType.int), Jvm.Cond.code ({ cls := "com/example/facet/facet/xml/MarkupScannerPlainUntilPinLaw", name := "stops", desc := "([BII)Z" } : Jvm.MethodName) method_6_code (3 : Nat) (Option.some Jvm.ClassFile.FieldType.boolean)]
set_option maxRecDepth 65536 in
theorem codes_eq : words1.filter isCode = codes1 := rfl
theorem w_codes : ∀ c ∈ words1.filter isCode, c.before args0 about1 = true := by
  rw [codes_eq]
  intro c hc
  simp only [codes1, List.mem_cons, List.not_mem_nil, or_false] at hc
  rcases hc with rfl | rfl | rfl | rfl | rfl | rfl | rfl | rfl | rfl
  · exact w_c0
  · exact w_c1
  · exact w_c2
  · exact w_c3
  · exact w_c4
  · exact w_c5
  · exact w_c6
  · exact w_c7
  · exact w_c8
set_option maxRecDepth 65536 in
theorem w_t1 : (words1.take 24).all (fun c => isCode c || c.before args0 about1) = true := by decide +kernel
set_option maxRecDepth 65536 in
theorem w_t2 : (words1.drop 24).all (fun c => isCode c || c.before args0 about1) = true := by decide +kernel
theorem w_tables : (allAtoms (Jvm.Cond.code x code maxLocals ret :: tables_1)).before args0 about1 = true := by
  rw [allAtoms_all]
  show words1.all (fun c => c.before args0 about1) = true
  refine all_split ?_ w_codes
  rw [← List.take_append_drop 24 words1, List.all_append, w_t1, w_t2]
  rfl
set_option maxRecDepth 65536 in
theorem w_case : (Jvm.Cond.and given_1 narrow_1).before args0 about1 = true := by decide +kernel
theorem w_applies : (headSpec (Jvm.Cond.code x code maxLocals ret :: tables_1) room_1).applies x e0.platform about1 = true :=
  (Spec.applies_iff w_frames).mpr ⟨w_running, w_runnable, w_alone, w_named, w_hears, w_ripe, w_room, w_tables⟩
theorem atStart : AtStart classFile x code maxLocals ret World_1 tables_1 room_1 Calls_1 rest_1 Pre_1 launch0 p0 e0 about1 theMethod args0 below0 :=
  ⟨lists_1, trivial, launch0.admits_env _ _ _, launch0.least_env, fairChoices_fair.cas, fairChoices_fair.clock, w_frames, w_args, w_heap, w_applies, trivial, trivial, w_case⟩
end start1
theorem witness_1 : WitnessClaimed_1 := ⟨start1.p0, start1.e0, start1.about1, start1.theMethod, start1.args0, start1.below0, start1.atStart⟩
end Jvm.Pilot.@@N@@
