import JvmDerived
import JvmDerived.Pilot.@@N@@Statement
import JvmDerived.Pilot.@@N@@Code
set_option linter.unusedVariables false
set_option linter.unusedSimpArgs false
@@BLOCK:NumsL.lean.txt@@
namespace Jvm.RoadKit
open Sem ClassFile Op Lib Jvm.Stand Jvm.Free Jvm.LawKit
section New
variable {p : Program} {l : Launch} {e : Env} {R : Room} {s : State} {m : MethodId} {args : Array Value} {below : List Frame} {meth : Method} {c : Code} {T : State} {locs : List Loc} {cells slots : Nat}
theorem retI (X : Stand p l e R s m args below meth c T locs cells slots) (hx : p.tables.exec = Jvm.exec) {pc : Nat} {Ls : Array Slot} {z : Int32} {rest : List Value} (hret : meth.sig.returnType = some .int) (hd : decode c.code pc = .ok (.ireturn, 1)) {fs : List Frame}
    (hl : ∀ (f : JFrame) (acts : List Action), f.method = m → f.locked = none → f.entered = [] → (doReturn e (T.setTop f) acts (some (.int z))).1 = T.setFrames fs) : Steps p.tables e below (T.setTop (mkF m pc Ls (.int z :: rest))) (T.setFrames fs) := by
  have hm' : T.vm.method? m = some meth := X.method'
  have hn : narrow .int (.int z) = .int z := rfl
  show Steps p.tables e below (T.setTop { method := m, pc := pc, locals := Ls, stack := _ :: rest, locked := none }) _
  jvm_step X.here [X.here.top, hx, hd, hm', hret, hn]
  first | (intro acts; rw [hl _ acts rfl rfl rfl]) | rw [hl _ _ rfl rfl rfl]
  exact Steps.refl _
/-- the run from U comes to an end of which Q speaks -/
def Gl (tb : Tables) (e : Env) (below : List Frame) (Q : State → Outcome → Prop) (U : State) : Prop := ∃ s₂ o, Steps tb e below U s₂ ∧ s₂.status = .running ∧ Ended s₂ below o ∧ Q s₂ o
theorem Gl.out {tb : Tables} {Q : State → Outcome → Prop} {U : State} (h : Gl tb e below Q U) : ∃ s₂ o, Steps tb e below U s₂ ∧ s₂.status = .running ∧ Ended s₂ below o ∧ Q s₂ o := h
theorem Gl.mk {tb : Tables} {Q : State → Outcome → Prop} {U : State} (h : ∃ s₂ o, Steps tb e below U s₂ ∧ s₂.status = .running ∧ Ended s₂ below o ∧ Q s₂ o) : Gl tb e below Q U := h
theorem Gl.go {tb : Tables} {Q : State → Outcome → Prop} {U V : State} (g : Gl tb e below Q V) (st : ∀ t, Steps tb e below V t → Steps tb e below U t) : Gl tb e below Q U := by
  obtain ⟨s₂, o, h1, h2⟩ := g
  exact ⟨s₂, o, st _ h1, h2⟩
theorem Gl.tr {tb : Tables} {Q : State → Outcome → Prop} {U V : State} (g : Gl tb e below Q V) (st : Steps tb e below U V) : Gl tb e below Q U := g.go fun _ k => st.trans k
/-- what a body leaves that writes and makes nothing: it returns w, the heap as it was -/
def PQ (w : Option Value) (h0 : Heap) (v : Option Value) (h : Heap) (L : List Loc) : Prop := v = w ∧ L = [] ∧ h = h0
/-- an array of ints or bytes: its length N and what it holds at j -/
def BA (Z : State) (h : Heap) (a : Addr) (ty : FieldType) (N : Int32) (f : Int32 → Int32) : Prop := ∃ cl : Cell, Arr Z h a cl ty ∧ cl.slots.size = N.toNatClampNeg ∧ ¬ N < 0 ∧ ∀ j : Int32, ¬ j < 0 → j < N → cl.slots[j.toNatClampNeg]? = some (.int (f j))
theorem BA.rdB {Z : State} {h : Heap} {a : Addr} {N j : Int32} {f : Int32 → Int32} (B : BA Z h a .byte N f) (X : Stand p l e R s m args below meth c T locs cells slots) (hx : p.tables.exec = Jvm.exec) (hZ : Z.Warmed39 s.vm) (eT : T.heap = h) (h1 : ¬ j < 0) (h2 : j < N) {g : JFrame} (hg : g.method = m) {rest : List Value} (hs : g.stack = .int j :: .ref a :: rest) (hd : decode c.code g.pc = .ok (.baload, 1)) :
    ∀ target, Steps p.tables e below (T.setTop { g with pc := g.pc + 1, stack := .int (f j) :: rest }) target → Steps p.tables e below (T.setTop g) target := by
  obtain ⟨cl, A, S, N0, H⟩ := B
  intro target k
  exact X.baloadBytes hx (j := j) (v := .int (f j)) (by rw [eT]; exact A.1) (State.isArrayOf_alike hZ.alike A.2.1) A.2.2 (inb_of S ⟨h1, h2⟩) (H j h1 h2) (g := g) hg hs hd _ k
theorem BA.rdI {Z : State} {h : Heap} {a : Addr} {N j : Int32} {f : Int32 → Int32} (B : BA Z h a .int N f) (X : Stand p l e R s m args below meth c T locs cells slots) (hx : p.tables.exec = Jvm.exec) (hZ : Z.Warmed39 s.vm) (eT : T.heap = h) (h1 : ¬ j < 0) (h2 : j < N) {g : JFrame} (hg : g.method = m) {rest : List Value} (hs : g.stack = .int j :: .ref a :: rest) (hd : decode c.code g.pc = .ok (.iaload, 1)) :
    ∀ target, Steps p.tables e below (T.setTop { g with pc := g.pc + 1, stack := .int (f j) :: rest }) target → Steps p.tables e below (T.setTop g) target := by
  obtain ⟨cl, A, S, N0, H⟩ := B
  intro target k
  exact X.iaload hx (j := j) (v := .int (f j)) (by rw [eT]; exact A.1) (State.isArrayOf_alike hZ.alike A.2.1) A.2.2 (inb_of S ⟨h1, h2⟩) (H j h1 h2) (g := g) hg hs hd _ k
theorem BA.len {Z : State} {h : Heap} {a : Addr} {N : Int32} {ty : FieldType} {f : Int32 → Int32} (B : BA Z h a ty N f) (X : Stand p l e R s m args below meth c T locs cells slots) (hx : p.tables.exec = Jvm.exec) (hZ : Z.Warmed39 s.vm) (eT : T.heap = h) {g : JFrame} (hg : g.method = m) {rest : List Value} (hs : g.stack = .ref a :: rest) (hd : decode c.code g.pc = .ok (.arraylength, 1)) :
    ∀ target, Steps p.tables e below (T.setTop { g with pc := g.pc + 1, stack := .int N :: rest }) target → Steps p.tables e below (T.setTop g) target := by
  obtain ⟨cl, A, S, N0, H⟩ := B
  intro target k
  refine X.arraylength hx (by rw [eT]; exact A.1) (State.isArrayOf_alike hZ.alike A.2.1) (g := g) hg hs hd _ ?_
  rw [len_of S N0]
  exact k
theorem Arv.rdR {Z : State} {h : Heap} {a : Addr} {k : ClassId} {N j : Int32} {ty : FieldType} {vs : List Value} {d v : Value} (V : Arv Z h a k ty N vs d) (hty : ty.isReference = true) (X : Stand p l e R s m args below meth c T locs cells slots) (hx : p.tables.exec = Jvm.exec) (hZ : Z.Warmed39 s.vm) (eT : T.heap = h) (h1 : ¬ j < 0) (h2 : j < N) (hv : vs.getD j.toNatClampNeg d = v) {g : JFrame} (hg : g.method = m) {rest : List Value} (hs : g.stack = .int j :: .ref a :: rest) (hd : decode c.code g.pc = .ok (.aaload, 1)) :
    ∀ target, Steps p.tables e below (T.setTop { g with pc := g.pc + 1, stack := v :: rest }) target → Steps p.tables e below (T.setTop g) target := by
  obtain ⟨cl, A, -, S, N0, H, -⟩ := V
  intro target k
  exact X.aaload hx (j := j) (v := v) (by rw [eT]; exact A.1) (State.isArrayOf_alike hZ.alike A.2.1) hty A.2.2 (inb_of S ⟨h1, h2⟩) (H.at (inb_of S ⟨h1, h2⟩) hv) (g := g) hg hs hd _ k
theorem BA.ext {Z : State} {h h' : Heap} {a : Addr} {N : Int32} {ty : FieldType} {f : Int32 → Int32} (B : BA Z h a ty N f) (E : Ext h h') : BA Z h' a ty N f := by
  obtain ⟨cl, A, r⟩ := B; exact ⟨cl, A.ext E, r⟩
theorem BA.other {Z : State} {h h' : Heap} {a b : Addr} {N : Int32} {ty : FieldType} {f : Int32 → Int32} {sl : Nat} {v : Value} (B : BA Z h b ty N f) (W : Wr h h' a sl v) (q : b ≠ a) : BA Z h' b ty N f := by
  obtain ⟨cl, A, r⟩ := B; exact ⟨cl, A.other W q, r⟩
theorem BA.lt {Z : State} {h : Heap} {a : Addr} {N : Int32} {ty : FieldType} {f : Int32 → Int32} (B : BA Z h a ty N f) : a < h.size := by
  obtain ⟨cl, A, r⟩ := B; exact A.lt
/-- the list of an array's values, read as a function -/
def nth (xs : List Int32) (j : Int32) : Int32 := xs.getD j.toNatClampNeg 0
theorem BA.of {Z : State} {h : Heap} {a : Addr} {k : ClassId} {N : Int32} {ty : FieldType} {d : Value} (xs : List Int32) (V : Arv Z h a k ty N (xs.map Value.int) d) (hl : N.toNatClampNeg ≤ xs.length) : BA Z h a ty N (nth xs) := by
  obtain ⟨cl, A, -, S, N0, H, -⟩ := V
  refine ⟨cl, A, S, N0, fun j h1 h2 => ?_⟩
  have h3 : j.toNatClampNeg < N.toNatClampNeg := by
    rw [Int32.lt_iff_toInt_lt] at h1 h2
    have e0 : (0 : Int32).toInt = 0 := rfl
    simp only [Int32.toNatClampNeg]; omega
  rw [H _ (by omega)]
  have h4 : j.toNatClampNeg < xs.length := by omega
  simp [nth, List.getD_eq_getElem?_getD, h4]
end New
end Jvm.RoadKit
namespace Jvm.Pilot.@@N@@
open Jvm Jvm.ClassFile Sem Op Lib Jvm.Free Jvm.Stand Jvm.LawKit Jvm.RoadKit Bundle Jvm.Pilot.@@N@@.Jvm.D
theorem own_eqv {args : Array Value} {first s : State} {o : Option Outcome} {idx : List Nat} {a b : Term} {y : Value} (h : (Cond.eq a b).value args first o s idx = some true) (hb : b.eval args first o idx s = some y) (hy : y.isRef = true ∨ ∃ z, y = .int z) : a.eval args first o idx s = some y := by
  cases ha : a.eval args first o idx s with
  | none => simp [Cond.value, ha] at h
  | some x => rcases hy with hy | ⟨z, rfl⟩ <;> cases x <;> (try cases y) <;> simp_all [Cond.value, Value.isRef]
theorem own_ref {v : Value} (h : v.isRef = true) : v = .null ∨ ∃ a, v = .ref a := ref_cases h
theorem own_nr (a : Addr) : ¬ (Value.ref a) = .null := nofun
theorem iv_lt {x a : Int32} {k : Int} (hk : a.toInt = k) (h : x < a) : x.toInt < k := hk ▸ Int32.lt_iff_toInt_lt.mp h
theorem iv_nlt {x a : Int32} {k : Int} (hk : a.toInt = k) (h : ¬ x < a) : k ≤ x.toInt := by rw [Int32.lt_iff_toInt_lt, hk] at h; omega
theorem iv_gt {x a : Int32} {k : Int} (hk : a.toInt = k) (h : a < x) : k < x.toInt := hk ▸ Int32.lt_iff_toInt_lt.mp h
theorem iv_ngt {x a : Int32} {k : Int} (hk : a.toInt = k) (h : ¬ a < x) : x.toInt ≤ k := by rw [Int32.lt_iff_toInt_lt, hk] at h; omega
theorem iv_eq {x a : Int32} {k : Int} (hk : a.toInt = k) (h : x = a) : x.toInt = k := h ▸ hk
theorem iv_ne {x a : Int32} {k : Int} (hk : a.toInt = k) (h : ¬ x = a) : x.toInt ≠ k := fun q => h (Int32.toInt_inj.mp (q.trans hk.symm))
theorem iv_lt' {x a : Int32} {k : Int} (hk : a.toInt = k) (h : x.toInt < k) : x < a := Int32.lt_iff_toInt_lt.mpr (hk ▸ h)
theorem iv_nlt' {x a : Int32} {k : Int} (hk : a.toInt = k) (h : k ≤ x.toInt) : ¬ x < a := by rw [Int32.lt_iff_toInt_lt, hk]; omega
theorem iv_gt' {x a : Int32} {k : Int} (hk : a.toInt = k) (h : k < x.toInt) : a < x := Int32.lt_iff_toInt_lt.mpr (hk ▸ h)
theorem iv_ngt' {x a : Int32} {k : Int} (hk : a.toInt = k) (h : x.toInt ≤ k) : ¬ a < x := by rw [Int32.lt_iff_toInt_lt, hk]; omega
theorem iv_eq' {x a : Int32} {k : Int} (hk : a.toInt = k) (h : x.toInt = k) : x = a := Int32.toInt_inj.mp (h.trans hk.symm)
theorem iv_neq' {x a : Int32} {k : Int} (hk : a.toInt = k) (h : x.toInt ≠ k) : ¬ x = a := fun q => h (q ▸ hk)
theorem own_succ {x : Int32} (h : x.toInt < 2147483647) : (x + 1).toInt = x.toInt + 1 := by
  have a := x.le_toInt
  exact Jvm.Kit.i32_add (by show -2 ^ 31 ≤ x.toInt + 1; omega) (by show x.toInt + 1 < 2 ^ 31; omega)
theorem own_len {u v : Int32} (h0 : 0 ≤ u.toInt) (h : u.toInt ≤ v.toInt) : u.toInt + ((v.toInt - u.toInt).toNat : Int) = v.toInt ∨ ((v.toInt - u.toInt).toNat = 0 ∧ ¬ u < v) := by
  left; omega
theorem own_nat {x : Int32} (h : 0 ≤ x.toInt) : x = Int32.ofNat x.toInt.toNat := by
  apply Int32.toInt_inj.mp
  have h2 := x.toInt_lt
  rw [Int32.toInt_ofNat_of_lt (by omega)]
  omega
theorem own_rem (x b : Int32) (hb : 0 < b.toInt) (k : Nat) (hk : b.toInt = k) : ∃ n : Nat, n < k ∧ (x &&& (2147483647 : Int32)) % b = Int32.ofNat n := by
  have h0 : (x &&& (2147483647 : Int32)).toInt = x.toInt % 2 ^ 31 := Jvm.Kit.i32_mask x 2147483647 (k := 31) (by decide) (by decide)
  have h3 : 0 ≤ (x &&& (2147483647 : Int32)).toInt := by omega
  have e : ((x &&& (2147483647 : Int32)) % b).toInt = (x &&& (2147483647 : Int32)).toInt % b.toInt := by
    rw [Int32.toInt_mod, Int.tmod_eq_emod_of_nonneg h3]
  have h1 : 0 ≤ ((x &&& (2147483647 : Int32)) % b).toInt := by rw [e]; exact Int.emod_nonneg _ (by omega)
  have h2 : ((x &&& (2147483647 : Int32)) % b).toInt < b.toInt := by rw [e]; exact Int.emod_lt_of_pos _ hb
  exact ⟨_, by omega, own_nat h1⟩
def own_R : List Int32 := [58, 58, 65, 90, 95, 95, 97, 122, 192, 214, 216, 246, 248, 767, 880, 893, 895, 8191, 8204, 8205, 8304, 8591, 11264, 12271, 12289, 55295, 63744, 64975, 65008, 65533, 65536, 983039]
theorem d2_0 : decode method_2_code 0 = .ok (.iload_n 0, 1) := by decide +kernel
theorem d2_1 : decode method_2_code 1 = .ok (.bipush 58, 2) := by decide +kernel
theorem d2_3 : decode method_2_code 3 = .ok (.if_icmp .eq 194, 3) := by decide +kernel
theorem d2_6 : decode method_2_code 6 = .ok (.iload_n 0, 1) := by decide +kernel
theorem d2_7 : decode method_2_code 7 = .ok (.bipush 65, 2) := by decide +kernel
theorem d2_9 : decode method_2_code 9 = .ok (.if_icmp .lt 9, 3) := by decide +kernel
theorem d2_12 : decode method_2_code 12 = .ok (.iload_n 0, 1) := by decide +kernel
theorem d2_13 : decode method_2_code 13 = .ok (.bipush 90, 2) := by decide +kernel
theorem d2_15 : decode method_2_code 15 = .ok (.if_icmp .le 182, 3) := by decide +kernel
theorem d2_18 : decode method_2_code 18 = .ok (.iload_n 0, 1) := by decide +kernel
theorem d2_19 : decode method_2_code 19 = .ok (.bipush 95, 2) := by decide +kernel
theorem d2_21 : decode method_2_code 21 = .ok (.if_icmp .eq 176, 3) := by decide +kernel
theorem d2_24 : decode method_2_code 24 = .ok (.iload_n 0, 1) := by decide +kernel
theorem d2_25 : decode method_2_code 25 = .ok (.bipush 97, 2) := by decide +kernel
theorem d2_27 : decode method_2_code 27 = .ok (.if_icmp .lt 9, 3) := by decide +kernel
theorem d2_30 : decode method_2_code 30 = .ok (.iload_n 0, 1) := by decide +kernel
theorem d2_31 : decode method_2_code 31 = .ok (.bipush 122, 2) := by decide +kernel
theorem d2_33 : decode method_2_code 33 = .ok (.if_icmp .le 164, 3) := by decide +kernel
theorem d2_36 : decode method_2_code 36 = .ok (.iload_n 0, 1) := by decide +kernel
theorem d2_37 : decode method_2_code 37 = .ok (.sipush 192, 3) := by decide +kernel
theorem d2_40 : decode method_2_code 40 = .ok (.if_icmp .lt 10, 3) := by decide +kernel
theorem d2_43 : decode method_2_code 43 = .ok (.iload_n 0, 1) := by decide +kernel
theorem d2_44 : decode method_2_code 44 = .ok (.sipush 214, 3) := by decide +kernel
theorem d2_47 : decode method_2_code 47 = .ok (.if_icmp .le 150, 3) := by decide +kernel
theorem d2_50 : decode method_2_code 50 = .ok (.iload_n 0, 1) := by decide +kernel
theorem d2_51 : decode method_2_code 51 = .ok (.sipush 216, 3) := by decide +kernel
theorem d2_54 : decode method_2_code 54 = .ok (.if_icmp .lt 10, 3) := by decide +kernel
theorem d2_57 : decode method_2_code 57 = .ok (.iload_n 0, 1) := by decide +kernel
theorem d2_58 : decode method_2_code 58 = .ok (.sipush 246, 3) := by decide +kernel
theorem d2_61 : decode method_2_code 61 = .ok (.if_icmp .le 136, 3) := by decide +kernel
theorem d2_64 : decode method_2_code 64 = .ok (.iload_n 0, 1) := by decide +kernel
theorem d2_65 : decode method_2_code 65 = .ok (.sipush 248, 3) := by decide +kernel
theorem d2_68 : decode method_2_code 68 = .ok (.if_icmp .lt 10, 3) := by decide +kernel
theorem d2_71 : decode method_2_code 71 = .ok (.iload_n 0, 1) := by decide +kernel
theorem d2_72 : decode method_2_code 72 = .ok (.sipush 767, 3) := by decide +kernel
theorem d2_75 : decode method_2_code 75 = .ok (.if_icmp .le 122, 3) := by decide +kernel
theorem d2_78 : decode method_2_code 78 = .ok (.iload_n 0, 1) := by decide +kernel
theorem d2_79 : decode method_2_code 79 = .ok (.sipush 880, 3) := by decide +kernel
theorem d2_82 : decode method_2_code 82 = .ok (.if_icmp .lt 10, 3) := by decide +kernel
theorem d2_85 : decode method_2_code 85 = .ok (.iload_n 0, 1) := by decide +kernel
theorem d2_86 : decode method_2_code 86 = .ok (.sipush 893, 3) := by decide +kernel
theorem d2_89 : decode method_2_code 89 = .ok (.if_icmp .le 108, 3) := by decide +kernel
theorem d2_92 : decode method_2_code 92 = .ok (.iload_n 0, 1) := by decide +kernel
theorem d2_93 : decode method_2_code 93 = .ok (.sipush 895, 3) := by decide +kernel
theorem d2_96 : decode method_2_code 96 = .ok (.if_icmp .lt 10, 3) := by decide +kernel
theorem d2_99 : decode method_2_code 99 = .ok (.iload_n 0, 1) := by decide +kernel
theorem d2_100 : decode method_2_code 100 = .ok (.sipush 8191, 3) := by decide +kernel
theorem d2_103 : decode method_2_code 103 = .ok (.if_icmp .le 94, 3) := by decide +kernel
theorem d2_106 : decode method_2_code 106 = .ok (.iload_n 0, 1) := by decide +kernel
theorem d2_107 : decode method_2_code 107 = .ok (.sipush 8204, 3) := by decide +kernel
theorem d2_110 : decode method_2_code 110 = .ok (.if_icmp .lt 10, 3) := by decide +kernel
theorem d2_113 : decode method_2_code 113 = .ok (.iload_n 0, 1) := by decide +kernel
theorem d2_114 : decode method_2_code 114 = .ok (.sipush 8205, 3) := by decide +kernel
theorem d2_117 : decode method_2_code 117 = .ok (.if_icmp .le 80, 3) := by decide +kernel
theorem d2_120 : decode method_2_code 120 = .ok (.iload_n 0, 1) := by decide +kernel
theorem d2_121 : decode method_2_code 121 = .ok (.sipush 8304, 3) := by decide +kernel
theorem d2_124 : decode method_2_code 124 = .ok (.if_icmp .lt 10, 3) := by decide +kernel
theorem d2_127 : decode method_2_code 127 = .ok (.iload_n 0, 1) := by decide +kernel
theorem d2_128 : decode method_2_code 128 = .ok (.sipush 8591, 3) := by decide +kernel
theorem d2_131 : decode method_2_code 131 = .ok (.if_icmp .le 66, 3) := by decide +kernel
theorem d2_134 : decode method_2_code 134 = .ok (.iload_n 0, 1) := by decide +kernel
theorem d2_135 : decode method_2_code 135 = .ok (.sipush 11264, 3) := by decide +kernel
theorem d2_138 : decode method_2_code 138 = .ok (.if_icmp .lt 10, 3) := by decide +kernel
theorem d2_141 : decode method_2_code 141 = .ok (.iload_n 0, 1) := by decide +kernel
theorem d2_142 : decode method_2_code 142 = .ok (.sipush 12271, 3) := by decide +kernel
theorem d2_145 : decode method_2_code 145 = .ok (.if_icmp .le 52, 3) := by decide +kernel
theorem d2_148 : decode method_2_code 148 = .ok (.iload_n 0, 1) := by decide +kernel
theorem d2_149 : decode method_2_code 149 = .ok (.sipush 12289, 3) := by decide +kernel
theorem d2_152 : decode method_2_code 152 = .ok (.if_icmp .lt 9, 3) := by decide +kernel
theorem d2_155 : decode method_2_code 155 = .ok (.iload_n 0, 1) := by decide +kernel
theorem d2_156 : decode method_2_code 156 = .ok (.ldc 7, 2) := by decide +kernel
theorem d2_158 : decode method_2_code 158 = .ok (.if_icmp .le 39, 3) := by decide +kernel
theorem d2_161 : decode method_2_code 161 = .ok (.iload_n 0, 1) := by decide +kernel
theorem d2_162 : decode method_2_code 162 = .ok (.ldc 8, 2) := by decide +kernel
theorem d2_164 : decode method_2_code 164 = .ok (.if_icmp .lt 9, 3) := by decide +kernel
theorem d2_167 : decode method_2_code 167 = .ok (.iload_n 0, 1) := by decide +kernel
theorem d2_168 : decode method_2_code 168 = .ok (.ldc 9, 2) := by decide +kernel
theorem d2_170 : decode method_2_code 170 = .ok (.if_icmp .le 27, 3) := by decide +kernel
theorem d2_173 : decode method_2_code 173 = .ok (.iload_n 0, 1) := by decide +kernel
theorem d2_174 : decode method_2_code 174 = .ok (.ldc 10, 2) := by decide +kernel
theorem d2_176 : decode method_2_code 176 = .ok (.if_icmp .lt 9, 3) := by decide +kernel
theorem d2_179 : decode method_2_code 179 = .ok (.iload_n 0, 1) := by decide +kernel
theorem d2_180 : decode method_2_code 180 = .ok (.ldc 11, 2) := by decide +kernel
theorem d2_182 : decode method_2_code 182 = .ok (.if_icmp .le 15, 3) := by decide +kernel
theorem d2_185 : decode method_2_code 185 = .ok (.iload_n 0, 1) := by decide +kernel
theorem d2_186 : decode method_2_code 186 = .ok (.ldc 12, 2) := by decide +kernel
theorem d2_188 : decode method_2_code 188 = .ok (.if_icmp .lt 13, 3) := by decide +kernel
theorem d2_191 : decode method_2_code 191 = .ok (.iload_n 0, 1) := by decide +kernel
theorem d2_192 : decode method_2_code 192 = .ok (.ldc 13, 2) := by decide +kernel
theorem d2_194 : decode method_2_code 194 = .ok (.if_icmp .gt 7, 3) := by decide +kernel
theorem d2_197 : decode method_2_code 197 = .ok (.iconst 1, 1) := by decide +kernel
theorem d2_198 : decode method_2_code 198 = .ok (.goto 4, 3) := by decide +kernel
theorem d2_201 : decode method_2_code 201 = .ok (.iconst 0, 1) := by decide +kernel
theorem d2_202 : decode method_2_code 202 = .ok (.ireturn, 1) := by decide +kernel
theorem pn_2 : plainName "com/example/facet/facet/datatypes/XmlNamesIsNameStartCharPinLaw" = true := by first | (simp [plainName, overriddenIn]; done) | decide +kernel
def f_spec (u : Int32) : Int32 := (if u = (58 : Int32) then (1 : Int32) else (if u < (65 : Int32) then (0 : Int32) else (if (90 : Int32) < u then (if u = (95 : Int32) then (1 : Int32) else (if u < (97 : Int32) then (0 : Int32) else (if (122 : Int32) < u then (if u < (192 : Int32) then (0 : Int32) else (if (214 : Int32) < u then (if u < (216 : Int32) then (0 : Int32) else (if (246 : Int32) < u then (if u < (248 : Int32) then (0 : Int32) else (if (767 : Int32) < u then (if u < (880 : Int32) then (0 : Int32) else (if (893 : Int32) < u then (if u < (895 : Int32) then (0 : Int32) else (if (8191 : Int32) < u then (if u < (8204 : Int32) then (0 : Int32) else (if (8205 : Int32) < u then (if u < (8304 : Int32) then (0 : Int32) else (if (8591 : Int32) < u then (if u < (11264 : Int32) then (0 : Int32) else (if (12271 : Int32) < u then (if u < (12289 : Int32) then (0 : Int32) else (if (55295 : Int32) < u then (if u < (63744 : Int32) then (0 : Int32) else (if (64975 : Int32) < u then (if u < (65008 : Int32) then (0 : Int32) else (if (65533 : Int32) < u then (if u < (65536 : Int32) then (0 : Int32) else (if (983039 : Int32) < u then (0 : Int32) else (1 : Int32))) else (1 : Int32))) else (1 : Int32))) else (1 : Int32))) else (1 : Int32))) else (1 : Int32))) else (1 : Int32))) else (1 : Int32))) else (1 : Int32))) else (1 : Int32))) else (1 : Int32))) else (1 : Int32))) else (1 : Int32)))) else (1 : Int32))))
theorem ef_rm2 (m : MethodId) (x0 : Int32) : entryFrame m #[(.int x0)] 1 = mkF m 0 #[.val (.int x0)] [] := by first | (simp [entryFrame, mkF, argsToLocals, Value.category]; done) | rfl
set_option maxRecDepth 65536 in
set_option maxHeartbeats 40000000 in
theorem rm2 (l : Launch) (Z : State) (a0 : Array Value) (hw : ∀ d ∈ tables_1, d.before a0 Z = true) (ws : List Jvm.Cond) (u : Int32)  (h0 : Heap)  :
    MetFree l (⟨"com/example/facet/facet/datatypes/XmlNamesIsNameStartCharPinLaw", "spec", "(I)Z"⟩ : MethodName) (head1 (Jvm.Cond.code (⟨"com/example/facet/facet/datatypes/XmlNamesIsNameStartCharPinLaw", "spec", "(I)Z"⟩ : MethodName) method_2_code 1 (some .boolean) :: ws) ({ frames := 0, cells := 0, slots := 0, locals := 0 } : Room)) (fun aQ U => aQ = #[(.int u)] ∧ Z.Warmed39 U.vm ∧ U.heap = h0) (fun _ _ _ _ _ => True) (fun _ U o U' => ∃ vQ LQ, o = .returned vQ ∧ PQ (some (.int (f_spec u))) h0 vQ U'.heap LQ ∧ FrameEnd U o U' LQ ({ frames := 0, cells := 0, slots := 0, locals := 0 } : Room).cells ({ frames := 0, cells := 0, slots := 0, locals := 0 } : Room).slots) := by
  refine MetFree.of_bodySF (plainFor_of_name pn_2) hisR ?_
  intro p e s m args below meth c s₁ Bd hml0 hP hK
  obtain ⟨rfl, hZ, hh⟩ := hP
  have hx := Bd.exec
  have hby := Bd.bytes
  have hml : c.maxLocals = 1 := hml0
  have hown : s.vm.findClass "com/example/facet/facet/datatypes/XmlNamesIsNameStartCharPinLaw" = some m.cls := findClass_of_methodNamed Bd.named
  have hnm := (name_of_methodNamed Bd.named Bd.method).1
  have X0 : Stand p l e ({ frames := 0, cells := 0, slots := 0, locals := 0 } : Room) s m #[(.int u)] below meth c s₁ [] 0 0 := Stand.of_body Bd
  have e0 : s₁.heap = h0 := by rw [← hh, Bd.state]; rfl
  refine Gl.out ?_
  refine Gl.go ?_ (fun t k => castTop (ef_rm2 m u) k)
  show Gl _ _ _ _ (s₁.setTop (mkF m 0 #[.val (.int u)] []))
  refine Gl.go ?_ (fun t k => XS.iloadN X0.here hx rfl (hb hby d2_0) rfl k)
  show Gl _ _ _ _ (s₁.setTop (mkF m 1 #[.val (.int u)] [(.int u)]))
  refine Gl.go ?_ (fun t k => XS.bipush X0.here hx rfl (hb hby d2_1) k)
  show Gl _ _ _ _ (s₁.setTop (mkF m 3 #[.val (.int u)] [(.int (58 : Int32)), (.int u)]))
  by_cases hc1 : u = (58 : Int32)
  · refine Gl.go ?_ (fun t k => XS.icmpYes X0.here hx rfl (pc0 := 3) (pc' := 197) rfl (hb hby d2_3) rfl (teq hc1).1 (by decide) (by decide) k)
    show Gl _ _ _ _ (s₁.setTop (mkF m 197 #[.val (.int u)] []))
    refine Gl.go ?_ (fun t k => XS.iconst X0.here hx rfl (hb hby d2_197) k)
    show Gl _ _ _ _ (s₁.setTop (mkF m 198 #[.val (.int u)] [(.int (1 : Int32))]))
    refine Gl.go ?_ (fun t k => XS.goto X0.here hx rfl (pc0 := 198) (pc' := 202) rfl (hb hby d2_198) (by decide) (by decide) k)
    show Gl _ _ _ _ (s₁.setTop (mkF m 202 #[.val (.int u)] [(.int (1 : Int32))]))
    obtain ⟨fs, hr, hrun, hended, hW, hsame⟩ := X0.leave (v := some (.int (1 : Int32))) (fun h => by rw [Bd.returns] at h; cases h) (BodyLoose.notSynchronized Bd)
    exact Gl.mk ⟨_, _, retN X0 hx (t := .boolean) Bd.returns (by simp) (hb hby d2_202) hr, hrun, hended, _, _, rfl, ⟨congrArg (fun z => some (Value.int z)) ((if_pos hc1).trans (rfl)).symm, rfl, e0⟩, ⟨_, rfl⟩, hW, hsame.mono (by decide) (by decide)⟩
  · refine Gl.go ?_ (fun t k => XS.icmpNo X0.here hx rfl (hb hby d2_3) rfl (feq hc1).1 k)
    show Gl _ _ _ _ (s₁.setTop (mkF m 6 #[.val (.int u)] []))
    refine Gl.go ?_ (fun t k => XS.iloadN X0.here hx rfl (hb hby d2_6) rfl k)
    show Gl _ _ _ _ (s₁.setTop (mkF m 7 #[.val (.int u)] [(.int u)]))
    refine Gl.go ?_ (fun t k => XS.bipush X0.here hx rfl (hb hby d2_7) k)
    show Gl _ _ _ _ (s₁.setTop (mkF m 9 #[.val (.int u)] [(.int (65 : Int32)), (.int u)]))
    by_cases hc2 : u < (65 : Int32)
    · refine Gl.go ?_ (fun t k => XS.icmpYes X0.here hx rfl (pc0 := 9) (pc' := 18) rfl (hb hby d2_9) rfl (tlt hc2).1 (by decide) (by decide) k)
      show Gl _ _ _ _ (s₁.setTop (mkF m 18 #[.val (.int u)] []))
      refine Gl.go ?_ (fun t k => XS.iloadN X0.here hx rfl (hb hby d2_18) rfl k)
      show Gl _ _ _ _ (s₁.setTop (mkF m 19 #[.val (.int u)] [(.int u)]))
      refine Gl.go ?_ (fun t k => XS.bipush X0.here hx rfl (hb hby d2_19) k)
      show Gl _ _ _ _ (s₁.setTop (mkF m 21 #[.val (.int u)] [(.int (95 : Int32)), (.int u)]))
      refine Gl.go ?_ (fun t k => XS.icmpNo X0.here hx rfl (hb hby d2_21) rfl (feq (iv_neq' (k := 95) rfl (by have q0 := iv_ne (k := 58) rfl hc1; have q1 := iv_lt (k := 65) rfl hc2; omega) : ¬ (u = (95 : Int32)))).1 k)
      show Gl _ _ _ _ (s₁.setTop (mkF m 24 #[.val (.int u)] []))
      refine Gl.go ?_ (fun t k => XS.iloadN X0.here hx rfl (hb hby d2_24) rfl k)
      show Gl _ _ _ _ (s₁.setTop (mkF m 25 #[.val (.int u)] [(.int u)]))
      refine Gl.go ?_ (fun t k => XS.bipush X0.here hx rfl (hb hby d2_25) k)
      show Gl _ _ _ _ (s₁.setTop (mkF m 27 #[.val (.int u)] [(.int (97 : Int32)), (.int u)]))
      refine Gl.go ?_ (fun t k => XS.icmpYes X0.here hx rfl (pc0 := 27) (pc' := 36) rfl (hb hby d2_27) rfl (tlt (iv_lt' (k := 97) rfl (by have q0 := iv_ne (k := 58) rfl hc1; have q1 := iv_lt (k := 65) rfl hc2; omega) : u < (97 : Int32))).1 (by decide) (by decide) k)
      show Gl _ _ _ _ (s₁.setTop (mkF m 36 #[.val (.int u)] []))
      refine Gl.go ?_ (fun t k => XS.iloadN X0.here hx rfl (hb hby d2_36) rfl k)
      show Gl _ _ _ _ (s₁.setTop (mkF m 37 #[.val (.int u)] [(.int u)]))
      refine Gl.go ?_ (fun t k => XS.sipush X0.here hx rfl (hb hby d2_37) k)
      show Gl _ _ _ _ (s₁.setTop (mkF m 40 #[.val (.int u)] [(.int (192 : Int32)), (.int u)]))
      refine Gl.go ?_ (fun t k => XS.icmpYes X0.here hx rfl (pc0 := 40) (pc' := 50) rfl (hb hby d2_40) rfl (tlt (iv_lt' (k := 192) rfl (by have q0 := iv_ne (k := 58) rfl hc1; have q1 := iv_lt (k := 65) rfl hc2; omega) : u < (192 : Int32))).1 (by decide) (by decide) k)
      show Gl _ _ _ _ (s₁.setTop (mkF m 50 #[.val (.int u)] []))
      refine Gl.go ?_ (fun t k => XS.iloadN X0.here hx rfl (hb hby d2_50) rfl k)
      show Gl _ _ _ _ (s₁.setTop (mkF m 51 #[.val (.int u)] [(.int u)]))
      refine Gl.go ?_ (fun t k => XS.sipush X0.here hx rfl (hb hby d2_51) k)
      show Gl _ _ _ _ (s₁.setTop (mkF m 54 #[.val (.int u)] [(.int (216 : Int32)), (.int u)]))
      refine Gl.go ?_ (fun t k => XS.icmpYes X0.here hx rfl (pc0 := 54) (pc' := 64) rfl (hb hby d2_54) rfl (tlt (iv_lt' (k := 216) rfl (by have q0 := iv_ne (k := 58) rfl hc1; have q1 := iv_lt (k := 65) rfl hc2; omega) : u < (216 : Int32))).1 (by decide) (by decide) k)
      show Gl _ _ _ _ (s₁.setTop (mkF m 64 #[.val (.int u)] []))
      refine Gl.go ?_ (fun t k => XS.iloadN X0.here hx rfl (hb hby d2_64) rfl k)
      show Gl _ _ _ _ (s₁.setTop (mkF m 65 #[.val (.int u)] [(.int u)]))
      refine Gl.go ?_ (fun t k => XS.sipush X0.here hx rfl (hb hby d2_65) k)
      show Gl _ _ _ _ (s₁.setTop (mkF m 68 #[.val (.int u)] [(.int (248 : Int32)), (.int u)]))
      refine Gl.go ?_ (fun t k => XS.icmpYes X0.here hx rfl (pc0 := 68) (pc' := 78) rfl (hb hby d2_68) rfl (tlt (iv_lt' (k := 248) rfl (by have q0 := iv_ne (k := 58) rfl hc1; have q1 := iv_lt (k := 65) rfl hc2; omega) : u < (248 : Int32))).1 (by decide) (by decide) k)
      show Gl _ _ _ _ (s₁.setTop (mkF m 78 #[.val (.int u)] []))
      refine Gl.go ?_ (fun t k => XS.iloadN X0.here hx rfl (hb hby d2_78) rfl k)
      show Gl _ _ _ _ (s₁.setTop (mkF m 79 #[.val (.int u)] [(.int u)]))
      refine Gl.go ?_ (fun t k => XS.sipush X0.here hx rfl (hb hby d2_79) k)
      show Gl _ _ _ _ (s₁.setTop (mkF m 82 #[.val (.int u)] [(.int (880 : Int32)), (.int u)]))
      refine Gl.go ?_ (fun t k => XS.icmpYes X0.here hx rfl (pc0 := 82) (pc' := 92) rfl (hb hby d2_82) rfl (tlt (iv_lt' (k := 880) rfl (by have q0 := iv_ne (k := 58) rfl hc1; have q1 := iv_lt (k := 65) rfl hc2; omega) : u < (880 : Int32))).1 (by decide) (by decide) k)
      show Gl _ _ _ _ (s₁.setTop (mkF m 92 #[.val (.int u)] []))
      refine Gl.go ?_ (fun t k => XS.iloadN X0.here hx rfl (hb hby d2_92) rfl k)
      show Gl _ _ _ _ (s₁.setTop (mkF m 93 #[.val (.int u)] [(.int u)]))
      refine Gl.go ?_ (fun t k => XS.sipush X0.here hx rfl (hb hby d2_93) k)
      show Gl _ _ _ _ (s₁.setTop (mkF m 96 #[.val (.int u)] [(.int (895 : Int32)), (.int u)]))
      refine Gl.go ?_ (fun t k => XS.icmpYes X0.here hx rfl (pc0 := 96) (pc' := 106) rfl (hb hby d2_96) rfl (tlt (iv_lt' (k := 895) rfl (by have q0 := iv_ne (k := 58) rfl hc1; have q1 := iv_lt (k := 65) rfl hc2; omega) : u < (895 : Int32))).1 (by decide) (by decide) k)
      show Gl _ _ _ _ (s₁.setTop (mkF m 106 #[.val (.int u)] []))
      refine Gl.go ?_ (fun t k => XS.iloadN X0.here hx rfl (hb hby d2_106) rfl k)
      show Gl _ _ _ _ (s₁.setTop (mkF m 107 #[.val (.int u)] [(.int u)]))
      refine Gl.go ?_ (fun t k => XS.sipush X0.here hx rfl (hb hby d2_107) k)
      show Gl _ _ _ _ (s₁.setTop (mkF m 110 #[.val (.int u)] [(.int (8204 : Int32)), (.int u)]))
      refine Gl.go ?_ (fun t k => XS.icmpYes X0.here hx rfl (pc0 := 110) (pc' := 120) rfl (hb hby d2_110) rfl (tlt (iv_lt' (k := 8204) rfl (by have q0 := iv_ne (k := 58) rfl hc1; have q1 := iv_lt (k := 65) rfl hc2; omega) : u < (8204 : Int32))).1 (by decide) (by decide) k)
      show Gl _ _ _ _ (s₁.setTop (mkF m 120 #[.val (.int u)] []))
      refine Gl.go ?_ (fun t k => XS.iloadN X0.here hx rfl (hb hby d2_120) rfl k)
      show Gl _ _ _ _ (s₁.setTop (mkF m 121 #[.val (.int u)] [(.int u)]))
      refine Gl.go ?_ (fun t k => XS.sipush X0.here hx rfl (hb hby d2_121) k)
      show Gl _ _ _ _ (s₁.setTop (mkF m 124 #[.val (.int u)] [(.int (8304 : Int32)), (.int u)]))
      refine Gl.go ?_ (fun t k => XS.icmpYes X0.here hx rfl (pc0 := 124) (pc' := 134) rfl (hb hby d2_124) rfl (tlt (iv_lt' (k := 8304) rfl (by have q0 := iv_ne (k := 58) rfl hc1; have q1 := iv_lt (k := 65) rfl hc2; omega) : u < (8304 : Int32))).1 (by decide) (by decide) k)
      show Gl _ _ _ _ (s₁.setTop (mkF m 134 #[.val (.int u)] []))
      refine Gl.go ?_ (fun t k => XS.iloadN X0.here hx rfl (hb hby d2_134) rfl k)
      show Gl _ _ _ _ (s₁.setTop (mkF m 135 #[.val (.int u)] [(.int u)]))
      refine Gl.go ?_ (fun t k => XS.sipush X0.here hx rfl (hb hby d2_135) k)
      show Gl _ _ _ _ (s₁.setTop (mkF m 138 #[.val (.int u)] [(.int (11264 : Int32)), (.int u)]))
      refine Gl.go ?_ (fun t k => XS.icmpYes X0.here hx rfl (pc0 := 138) (pc' := 148) rfl (hb hby d2_138) rfl (tlt (iv_lt' (k := 11264) rfl (by have q0 := iv_ne (k := 58) rfl hc1; have q1 := iv_lt (k := 65) rfl hc2; omega) : u < (11264 : Int32))).1 (by decide) (by decide) k)
      show Gl _ _ _ _ (s₁.setTop (mkF m 148 #[.val (.int u)] []))
      refine Gl.go ?_ (fun t k => XS.iloadN X0.here hx rfl (hb hby d2_148) rfl k)
      show Gl _ _ _ _ (s₁.setTop (mkF m 149 #[.val (.int u)] [(.int u)]))
      refine Gl.go ?_ (fun t k => XS.sipush X0.here hx rfl (hb hby d2_149) k)
      show Gl _ _ _ _ (s₁.setTop (mkF m 152 #[.val (.int u)] [(.int (12289 : Int32)), (.int u)]))
      refine Gl.go ?_ (fun t k => XS.icmpYes X0.here hx rfl (pc0 := 152) (pc' := 161) rfl (hb hby d2_152) rfl (tlt (iv_lt' (k := 12289) rfl (by have q0 := iv_ne (k := 58) rfl hc1; have q1 := iv_lt (k := 65) rfl hc2; omega) : u < (12289 : Int32))).1 (by decide) (by decide) k)
      show Gl _ _ _ _ (s₁.setTop (mkF m 161 #[.val (.int u)] []))
      refine Gl.go ?_ (fun t k => XS.iloadN X0.here hx rfl (hb hby d2_161) rfl k)
      show Gl _ _ _ _ (s₁.setTop (mkF m 162 #[.val (.int u)] [(.int u)]))
      refine Gl.go ?_ (X0.ldcInt hx hown (mvT hZ (hw _ (List.mem_of_getElem? (i := 2) rfl))) (g := (mkF m 162 #[.val (.int u)] [(.int u)])) rfl (hb hby d2_162))
      show Gl _ _ _ _ (s₁.setTop (mkF m 164 #[.val (.int u)] [(.int (63744 : Int32)), (.int u)]))
      refine Gl.go ?_ (fun t k => XS.icmpYes X0.here hx rfl (pc0 := 164) (pc' := 173) rfl (hb hby d2_164) rfl (tlt (iv_lt' (k := 63744) rfl (by have q0 := iv_ne (k := 58) rfl hc1; have q1 := iv_lt (k := 65) rfl hc2; omega) : u < (63744 : Int32))).1 (by decide) (by decide) k)
      show Gl _ _ _ _ (s₁.setTop (mkF m 173 #[.val (.int u)] []))
      refine Gl.go ?_ (fun t k => XS.iloadN X0.here hx rfl (hb hby d2_173) rfl k)
      show Gl _ _ _ _ (s₁.setTop (mkF m 174 #[.val (.int u)] [(.int u)]))
      refine Gl.go ?_ (X0.ldcInt hx hown (mvT hZ (hw _ (List.mem_of_getElem? (i := 4) rfl))) (g := (mkF m 174 #[.val (.int u)] [(.int u)])) rfl (hb hby d2_174))
      show Gl _ _ _ _ (s₁.setTop (mkF m 176 #[.val (.int u)] [(.int (65008 : Int32)), (.int u)]))
      refine Gl.go ?_ (fun t k => XS.icmpYes X0.here hx rfl (pc0 := 176) (pc' := 185) rfl (hb hby d2_176) rfl (tlt (iv_lt' (k := 65008) rfl (by have q0 := iv_ne (k := 58) rfl hc1; have q1 := iv_lt (k := 65) rfl hc2; omega) : u < (65008 : Int32))).1 (by decide) (by decide) k)
      show Gl _ _ _ _ (s₁.setTop (mkF m 185 #[.val (.int u)] []))
      refine Gl.go ?_ (fun t k => XS.iloadN X0.here hx rfl (hb hby d2_185) rfl k)
      show Gl _ _ _ _ (s₁.setTop (mkF m 186 #[.val (.int u)] [(.int u)]))
      refine Gl.go ?_ (X0.ldcInt hx hown (mvT hZ (hw _ (List.mem_of_getElem? (i := 6) rfl))) (g := (mkF m 186 #[.val (.int u)] [(.int u)])) rfl (hb hby d2_186))
      show Gl _ _ _ _ (s₁.setTop (mkF m 188 #[.val (.int u)] [(.int (65536 : Int32)), (.int u)]))
      refine Gl.go ?_ (fun t k => XS.icmpYes X0.here hx rfl (pc0 := 188) (pc' := 201) rfl (hb hby d2_188) rfl (tlt (iv_lt' (k := 65536) rfl (by have q0 := iv_ne (k := 58) rfl hc1; have q1 := iv_lt (k := 65) rfl hc2; omega) : u < (65536 : Int32))).1 (by decide) (by decide) k)
      show Gl _ _ _ _ (s₁.setTop (mkF m 201 #[.val (.int u)] []))
      refine Gl.go ?_ (fun t k => XS.iconst X0.here hx rfl (hb hby d2_201) k)
      show Gl _ _ _ _ (s₁.setTop (mkF m 202 #[.val (.int u)] [(.int (0 : Int32))]))
      obtain ⟨fs, hr, hrun, hended, hW, hsame⟩ := X0.leave (v := some (.int (0 : Int32))) (fun h => by rw [Bd.returns] at h; cases h) (BodyLoose.notSynchronized Bd)
      exact Gl.mk ⟨_, _, retN X0 hx (t := .boolean) Bd.returns (by simp) (hb hby d2_202) hr, hrun, hended, _, _, rfl, ⟨congrArg (fun z => some (Value.int z)) ((if_neg hc1).trans ((if_pos hc2).trans (rfl))).symm, rfl, e0⟩, ⟨_, rfl⟩, hW, hsame.mono (by decide) (by decide)⟩
    · refine Gl.go ?_ (fun t k => XS.icmpNo X0.here hx rfl (hb hby d2_9) rfl (flt hc2).1 k)
      show Gl _ _ _ _ (s₁.setTop (mkF m 12 #[.val (.int u)] []))
      refine Gl.go ?_ (fun t k => XS.iloadN X0.here hx rfl (hb hby d2_12) rfl k)
      show Gl _ _ _ _ (s₁.setTop (mkF m 13 #[.val (.int u)] [(.int u)]))
      refine Gl.go ?_ (fun t k => XS.bipush X0.here hx rfl (hb hby d2_13) k)
      show Gl _ _ _ _ (s₁.setTop (mkF m 15 #[.val (.int u)] [(.int (90 : Int32)), (.int u)]))
      by_cases hc3 : (90 : Int32) < u
      · refine Gl.go ?_ (fun t k => XS.icmpNo X0.here hx rfl (hb hby d2_15) rfl (tlt hc3).2.2.2 k)
        show Gl _ _ _ _ (s₁.setTop (mkF m 18 #[.val (.int u)] []))
        refine Gl.go ?_ (fun t k => XS.iloadN X0.here hx rfl (hb hby d2_18) rfl k)
        show Gl _ _ _ _ (s₁.setTop (mkF m 19 #[.val (.int u)] [(.int u)]))
        refine Gl.go ?_ (fun t k => XS.bipush X0.here hx rfl (hb hby d2_19) k)
        show Gl _ _ _ _ (s₁.setTop (mkF m 21 #[.val (.int u)] [(.int (95 : Int32)), (.int u)]))
        by_cases hc4 : u = (95 : Int32)
        · refine Gl.go ?_ (fun t k => XS.icmpYes X0.here hx rfl (pc0 := 21) (pc' := 197) rfl (hb hby d2_21) rfl (teq hc4).1 (by decide) (by decide) k)
          show Gl _ _ _ _ (s₁.setTop (mkF m 197 #[.val (.int u)] []))
          refine Gl.go ?_ (fun t k => XS.iconst X0.here hx rfl (hb hby d2_197) k)
          show Gl _ _ _ _ (s₁.setTop (mkF m 198 #[.val (.int u)] [(.int (1 : Int32))]))
          refine Gl.go ?_ (fun t k => XS.goto X0.here hx rfl (pc0 := 198) (pc' := 202) rfl (hb hby d2_198) (by decide) (by decide) k)
          show Gl _ _ _ _ (s₁.setTop (mkF m 202 #[.val (.int u)] [(.int (1 : Int32))]))
          obtain ⟨fs, hr, hrun, hended, hW, hsame⟩ := X0.leave (v := some (.int (1 : Int32))) (fun h => by rw [Bd.returns] at h; cases h) (BodyLoose.notSynchronized Bd)
          exact Gl.mk ⟨_, _, retN X0 hx (t := .boolean) Bd.returns (by simp) (hb hby d2_202) hr, hrun, hended, _, _, rfl, ⟨congrArg (fun z => some (Value.int z)) ((if_neg hc1).trans ((if_neg hc2).trans ((if_pos hc3).trans ((if_pos hc4).trans (rfl))))).symm, rfl, e0⟩, ⟨_, rfl⟩, hW, hsame.mono (by decide) (by decide)⟩
        · refine Gl.go ?_ (fun t k => XS.icmpNo X0.here hx rfl (hb hby d2_21) rfl (feq hc4).1 k)
          show Gl _ _ _ _ (s₁.setTop (mkF m 24 #[.val (.int u)] []))
          refine Gl.go ?_ (fun t k => XS.iloadN X0.here hx rfl (hb hby d2_24) rfl k)
          show Gl _ _ _ _ (s₁.setTop (mkF m 25 #[.val (.int u)] [(.int u)]))
          refine Gl.go ?_ (fun t k => XS.bipush X0.here hx rfl (hb hby d2_25) k)
          show Gl _ _ _ _ (s₁.setTop (mkF m 27 #[.val (.int u)] [(.int (97 : Int32)), (.int u)]))
          by_cases hc5 : u < (97 : Int32)
          · refine Gl.go ?_ (fun t k => XS.icmpYes X0.here hx rfl (pc0 := 27) (pc' := 36) rfl (hb hby d2_27) rfl (tlt hc5).1 (by decide) (by decide) k)
            show Gl _ _ _ _ (s₁.setTop (mkF m 36 #[.val (.int u)] []))
            refine Gl.go ?_ (fun t k => XS.iloadN X0.here hx rfl (hb hby d2_36) rfl k)
            show Gl _ _ _ _ (s₁.setTop (mkF m 37 #[.val (.int u)] [(.int u)]))
            refine Gl.go ?_ (fun t k => XS.sipush X0.here hx rfl (hb hby d2_37) k)
            show Gl _ _ _ _ (s₁.setTop (mkF m 40 #[.val (.int u)] [(.int (192 : Int32)), (.int u)]))
            refine Gl.go ?_ (fun t k => XS.icmpYes X0.here hx rfl (pc0 := 40) (pc' := 50) rfl (hb hby d2_40) rfl (tlt (iv_lt' (k := 192) rfl (by have q0 := iv_ne (k := 58) rfl hc1; have q1 := iv_nlt (k := 65) rfl hc2; have q2 := iv_gt (k := 90) rfl hc3; have q3 := iv_ne (k := 95) rfl hc4; have q4 := iv_lt (k := 97) rfl hc5; omega) : u < (192 : Int32))).1 (by decide) (by decide) k)
            show Gl _ _ _ _ (s₁.setTop (mkF m 50 #[.val (.int u)] []))
            refine Gl.go ?_ (fun t k => XS.iloadN X0.here hx rfl (hb hby d2_50) rfl k)
            show Gl _ _ _ _ (s₁.setTop (mkF m 51 #[.val (.int u)] [(.int u)]))
            refine Gl.go ?_ (fun t k => XS.sipush X0.here hx rfl (hb hby d2_51) k)
            show Gl _ _ _ _ (s₁.setTop (mkF m 54 #[.val (.int u)] [(.int (216 : Int32)), (.int u)]))
            refine Gl.go ?_ (fun t k => XS.icmpYes X0.here hx rfl (pc0 := 54) (pc' := 64) rfl (hb hby d2_54) rfl (tlt (iv_lt' (k := 216) rfl (by have q0 := iv_ne (k := 58) rfl hc1; have q1 := iv_nlt (k := 65) rfl hc2; have q2 := iv_gt (k := 90) rfl hc3; have q3 := iv_ne (k := 95) rfl hc4; have q4 := iv_lt (k := 97) rfl hc5; omega) : u < (216 : Int32))).1 (by decide) (by decide) k)
            show Gl _ _ _ _ (s₁.setTop (mkF m 64 #[.val (.int u)] []))
            refine Gl.go ?_ (fun t k => XS.iloadN X0.here hx rfl (hb hby d2_64) rfl k)
            show Gl _ _ _ _ (s₁.setTop (mkF m 65 #[.val (.int u)] [(.int u)]))
            refine Gl.go ?_ (fun t k => XS.sipush X0.here hx rfl (hb hby d2_65) k)
            show Gl _ _ _ _ (s₁.setTop (mkF m 68 #[.val (.int u)] [(.int (248 : Int32)), (.int u)]))
            refine Gl.go ?_ (fun t k => XS.icmpYes X0.here hx rfl (pc0 := 68) (pc' := 78) rfl (hb hby d2_68) rfl (tlt (iv_lt' (k := 248) rfl (by have q0 := iv_ne (k := 58) rfl hc1; have q1 := iv_nlt (k := 65) rfl hc2; have q2 := iv_gt (k := 90) rfl hc3; have q3 := iv_ne (k := 95) rfl hc4; have q4 := iv_lt (k := 97) rfl hc5; omega) : u < (248 : Int32))).1 (by decide) (by decide) k)
            show Gl _ _ _ _ (s₁.setTop (mkF m 78 #[.val (.int u)] []))
            refine Gl.go ?_ (fun t k => XS.iloadN X0.here hx rfl (hb hby d2_78) rfl k)
            show Gl _ _ _ _ (s₁.setTop (mkF m 79 #[.val (.int u)] [(.int u)]))
            refine Gl.go ?_ (fun t k => XS.sipush X0.here hx rfl (hb hby d2_79) k)
            show Gl _ _ _ _ (s₁.setTop (mkF m 82 #[.val (.int u)] [(.int (880 : Int32)), (.int u)]))
            refine Gl.go ?_ (fun t k => XS.icmpYes X0.here hx rfl (pc0 := 82) (pc' := 92) rfl (hb hby d2_82) rfl (tlt (iv_lt' (k := 880) rfl (by have q0 := iv_ne (k := 58) rfl hc1; have q1 := iv_nlt (k := 65) rfl hc2; have q2 := iv_gt (k := 90) rfl hc3; have q3 := iv_ne (k := 95) rfl hc4; have q4 := iv_lt (k := 97) rfl hc5; omega) : u < (880 : Int32))).1 (by decide) (by decide) k)
            show Gl _ _ _ _ (s₁.setTop (mkF m 92 #[.val (.int u)] []))
            refine Gl.go ?_ (fun t k => XS.iloadN X0.here hx rfl (hb hby d2_92) rfl k)
            show Gl _ _ _ _ (s₁.setTop (mkF m 93 #[.val (.int u)] [(.int u)]))
            refine Gl.go ?_ (fun t k => XS.sipush X0.here hx rfl (hb hby d2_93) k)
            show Gl _ _ _ _ (s₁.setTop (mkF m 96 #[.val (.int u)] [(.int (895 : Int32)), (.int u)]))
            refine Gl.go ?_ (fun t k => XS.icmpYes X0.here hx rfl (pc0 := 96) (pc' := 106) rfl (hb hby d2_96) rfl (tlt (iv_lt' (k := 895) rfl (by have q0 := iv_ne (k := 58) rfl hc1; have q1 := iv_nlt (k := 65) rfl hc2; have q2 := iv_gt (k := 90) rfl hc3; have q3 := iv_ne (k := 95) rfl hc4; have q4 := iv_lt (k := 97) rfl hc5; omega) : u < (895 : Int32))).1 (by decide) (by decide) k)
            show Gl _ _ _ _ (s₁.setTop (mkF m 106 #[.val (.int u)] []))
            refine Gl.go ?_ (fun t k => XS.iloadN X0.here hx rfl (hb hby d2_106) rfl k)
            show Gl _ _ _ _ (s₁.setTop (mkF m 107 #[.val (.int u)] [(.int u)]))
            refine Gl.go ?_ (fun t k => XS.sipush X0.here hx rfl (hb hby d2_107) k)
            show Gl _ _ _ _ (s₁.setTop (mkF m 110 #[.val (.int u)] [(.int (8204 : Int32)), (.int u)]))
            refine Gl.go ?_ (fun t k => XS.icmpYes X0.here hx rfl (pc0 := 110) (pc' := 120) rfl (hb hby d2_110) rfl (tlt (iv_lt' (k := 8204) rfl (by have q0 := iv_ne (k := 58) rfl hc1; have q1 := iv_nlt (k := 65) rfl hc2; have q2 := iv_gt (k := 90) rfl hc3; have q3 := iv_ne (k := 95) rfl hc4; have q4 := iv_lt (k := 97) rfl hc5; omega) : u < (8204 : Int32))).1 (by decide) (by decide) k)
            show Gl _ _ _ _ (s₁.setTop (mkF m 120 #[.val (.int u)] []))
            refine Gl.go ?_ (fun t k => XS.iloadN X0.here hx rfl (hb hby d2_120) rfl k)
            show Gl _ _ _ _ (s₁.setTop (mkF m 121 #[.val (.int u)] [(.int u)]))
            refine Gl.go ?_ (fun t k => XS.sipush X0.here hx rfl (hb hby d2_121) k)
            show Gl _ _ _ _ (s₁.setTop (mkF m 124 #[.val (.int u)] [(.int (8304 : Int32)), (.int u)]))
            refine Gl.go ?_ (fun t k => XS.icmpYes X0.here hx rfl (pc0 := 124) (pc' := 134) rfl (hb hby d2_124) rfl (tlt (iv_lt' (k := 8304) rfl (by have q0 := iv_ne (k := 58) rfl hc1; have q1 := iv_nlt (k := 65) rfl hc2; have q2 := iv_gt (k := 90) rfl hc3; have q3 := iv_ne (k := 95) rfl hc4; have q4 := iv_lt (k := 97) rfl hc5; omega) : u < (8304 : Int32))).1 (by decide) (by decide) k)
            show Gl _ _ _ _ (s₁.setTop (mkF m 134 #[.val (.int u)] []))
            refine Gl.go ?_ (fun t k => XS.iloadN X0.here hx rfl (hb hby d2_134) rfl k)
            show Gl _ _ _ _ (s₁.setTop (mkF m 135 #[.val (.int u)] [(.int u)]))
            refine Gl.go ?_ (fun t k => XS.sipush X0.here hx rfl (hb hby d2_135) k)
            show Gl _ _ _ _ (s₁.setTop (mkF m 138 #[.val (.int u)] [(.int (11264 : Int32)), (.int u)]))
            refine Gl.go ?_ (fun t k => XS.icmpYes X0.here hx rfl (pc0 := 138) (pc' := 148) rfl (hb hby d2_138) rfl (tlt (iv_lt' (k := 11264) rfl (by have q0 := iv_ne (k := 58) rfl hc1; have q1 := iv_nlt (k := 65) rfl hc2; have q2 := iv_gt (k := 90) rfl hc3; have q3 := iv_ne (k := 95) rfl hc4; have q4 := iv_lt (k := 97) rfl hc5; omega) : u < (11264 : Int32))).1 (by decide) (by decide) k)
            show Gl _ _ _ _ (s₁.setTop (mkF m 148 #[.val (.int u)] []))
            refine Gl.go ?_ (fun t k => XS.iloadN X0.here hx rfl (hb hby d2_148) rfl k)
            show Gl _ _ _ _ (s₁.setTop (mkF m 149 #[.val (.int u)] [(.int u)]))
            refine Gl.go ?_ (fun t k => XS.sipush X0.here hx rfl (hb hby d2_149) k)
            show Gl _ _ _ _ (s₁.setTop (mkF m 152 #[.val (.int u)] [(.int (12289 : Int32)), (.int u)]))
            refine Gl.go ?_ (fun t k => XS.icmpYes X0.here hx rfl (pc0 := 152) (pc' := 161) rfl (hb hby d2_152) rfl (tlt (iv_lt' (k := 12289) rfl (by have q0 := iv_ne (k := 58) rfl hc1; have q1 := iv_nlt (k := 65) rfl hc2; have q2 := iv_gt (k := 90) rfl hc3; have q3 := iv_ne (k := 95) rfl hc4; have q4 := iv_lt (k := 97) rfl hc5; omega) : u < (12289 : Int32))).1 (by decide) (by decide) k)
            show Gl _ _ _ _ (s₁.setTop (mkF m 161 #[.val (.int u)] []))
            refine Gl.go ?_ (fun t k => XS.iloadN X0.here hx rfl (hb hby d2_161) rfl k)
            show Gl _ _ _ _ (s₁.setTop (mkF m 162 #[.val (.int u)] [(.int u)]))
            refine Gl.go ?_ (X0.ldcInt hx hown (mvT hZ (hw _ (List.mem_of_getElem? (i := 2) rfl))) (g := (mkF m 162 #[.val (.int u)] [(.int u)])) rfl (hb hby d2_162))
            show Gl _ _ _ _ (s₁.setTop (mkF m 164 #[.val (.int u)] [(.int (63744 : Int32)), (.int u)]))
            refine Gl.go ?_ (fun t k => XS.icmpYes X0.here hx rfl (pc0 := 164) (pc' := 173) rfl (hb hby d2_164) rfl (tlt (iv_lt' (k := 63744) rfl (by have q0 := iv_ne (k := 58) rfl hc1; have q1 := iv_nlt (k := 65) rfl hc2; have q2 := iv_gt (k := 90) rfl hc3; have q3 := iv_ne (k := 95) rfl hc4; have q4 := iv_lt (k := 97) rfl hc5; omega) : u < (63744 : Int32))).1 (by decide) (by decide) k)
            show Gl _ _ _ _ (s₁.setTop (mkF m 173 #[.val (.int u)] []))
            refine Gl.go ?_ (fun t k => XS.iloadN X0.here hx rfl (hb hby d2_173) rfl k)
            show Gl _ _ _ _ (s₁.setTop (mkF m 174 #[.val (.int u)] [(.int u)]))
            refine Gl.go ?_ (X0.ldcInt hx hown (mvT hZ (hw _ (List.mem_of_getElem? (i := 4) rfl))) (g := (mkF m 174 #[.val (.int u)] [(.int u)])) rfl (hb hby d2_174))
            show Gl _ _ _ _ (s₁.setTop (mkF m 176 #[.val (.int u)] [(.int (65008 : Int32)), (.int u)]))
            refine Gl.go ?_ (fun t k => XS.icmpYes X0.here hx rfl (pc0 := 176) (pc' := 185) rfl (hb hby d2_176) rfl (tlt (iv_lt' (k := 65008) rfl (by have q0 := iv_ne (k := 58) rfl hc1; have q1 := iv_nlt (k := 65) rfl hc2; have q2 := iv_gt (k := 90) rfl hc3; have q3 := iv_ne (k := 95) rfl hc4; have q4 := iv_lt (k := 97) rfl hc5; omega) : u < (65008 : Int32))).1 (by decide) (by decide) k)
            show Gl _ _ _ _ (s₁.setTop (mkF m 185 #[.val (.int u)] []))
            refine Gl.go ?_ (fun t k => XS.iloadN X0.here hx rfl (hb hby d2_185) rfl k)
            show Gl _ _ _ _ (s₁.setTop (mkF m 186 #[.val (.int u)] [(.int u)]))
            refine Gl.go ?_ (X0.ldcInt hx hown (mvT hZ (hw _ (List.mem_of_getElem? (i := 6) rfl))) (g := (mkF m 186 #[.val (.int u)] [(.int u)])) rfl (hb hby d2_186))
            show Gl _ _ _ _ (s₁.setTop (mkF m 188 #[.val (.int u)] [(.int (65536 : Int32)), (.int u)]))
            refine Gl.go ?_ (fun t k => XS.icmpYes X0.here hx rfl (pc0 := 188) (pc' := 201) rfl (hb hby d2_188) rfl (tlt (iv_lt' (k := 65536) rfl (by have q0 := iv_ne (k := 58) rfl hc1; have q1 := iv_nlt (k := 65) rfl hc2; have q2 := iv_gt (k := 90) rfl hc3; have q3 := iv_ne (k := 95) rfl hc4; have q4 := iv_lt (k := 97) rfl hc5; omega) : u < (65536 : Int32))).1 (by decide) (by decide) k)
            show Gl _ _ _ _ (s₁.setTop (mkF m 201 #[.val (.int u)] []))
            refine Gl.go ?_ (fun t k => XS.iconst X0.here hx rfl (hb hby d2_201) k)
            show Gl _ _ _ _ (s₁.setTop (mkF m 202 #[.val (.int u)] [(.int (0 : Int32))]))
            obtain ⟨fs, hr, hrun, hended, hW, hsame⟩ := X0.leave (v := some (.int (0 : Int32))) (fun h => by rw [Bd.returns] at h; cases h) (BodyLoose.notSynchronized Bd)
            exact Gl.mk ⟨_, _, retN X0 hx (t := .boolean) Bd.returns (by simp) (hb hby d2_202) hr, hrun, hended, _, _, rfl, ⟨congrArg (fun z => some (Value.int z)) ((if_neg hc1).trans ((if_neg hc2).trans ((if_pos hc3).trans ((if_neg hc4).trans ((if_pos hc5).trans (rfl)))))).symm, rfl, e0⟩, ⟨_, rfl⟩, hW, hsame.mono (by decide) (by decide)⟩
          · refine Gl.go ?_ (fun t k => XS.icmpNo X0.here hx rfl (hb hby d2_27) rfl (flt hc5).1 k)
            show Gl _ _ _ _ (s₁.setTop (mkF m 30 #[.val (.int u)] []))
            refine Gl.go ?_ (fun t k => XS.iloadN X0.here hx rfl (hb hby d2_30) rfl k)
            show Gl _ _ _ _ (s₁.setTop (mkF m 31 #[.val (.int u)] [(.int u)]))
            refine Gl.go ?_ (fun t k => XS.bipush X0.here hx rfl (hb hby d2_31) k)
            show Gl _ _ _ _ (s₁.setTop (mkF m 33 #[.val (.int u)] [(.int (122 : Int32)), (.int u)]))
            by_cases hc6 : (122 : Int32) < u
            · refine Gl.go ?_ (fun t k => XS.icmpNo X0.here hx rfl (hb hby d2_33) rfl (tlt hc6).2.2.2 k)
              show Gl _ _ _ _ (s₁.setTop (mkF m 36 #[.val (.int u)] []))
              refine Gl.go ?_ (fun t k => XS.iloadN X0.here hx rfl (hb hby d2_36) rfl k)
              show Gl _ _ _ _ (s₁.setTop (mkF m 37 #[.val (.int u)] [(.int u)]))
              refine Gl.go ?_ (fun t k => XS.sipush X0.here hx rfl (hb hby d2_37) k)
              show Gl _ _ _ _ (s₁.setTop (mkF m 40 #[.val (.int u)] [(.int (192 : Int32)), (.int u)]))
              by_cases hc7 : u < (192 : Int32)
              · refine Gl.go ?_ (fun t k => XS.icmpYes X0.here hx rfl (pc0 := 40) (pc' := 50) rfl (hb hby d2_40) rfl (tlt hc7).1 (by decide) (by decide) k)
                show Gl _ _ _ _ (s₁.setTop (mkF m 50 #[.val (.int u)] []))
                refine Gl.go ?_ (fun t k => XS.iloadN X0.here hx rfl (hb hby d2_50) rfl k)
                show Gl _ _ _ _ (s₁.setTop (mkF m 51 #[.val (.int u)] [(.int u)]))
                refine Gl.go ?_ (fun t k => XS.sipush X0.here hx rfl (hb hby d2_51) k)
                show Gl _ _ _ _ (s₁.setTop (mkF m 54 #[.val (.int u)] [(.int (216 : Int32)), (.int u)]))
                refine Gl.go ?_ (fun t k => XS.icmpYes X0.here hx rfl (pc0 := 54) (pc' := 64) rfl (hb hby d2_54) rfl (tlt (iv_lt' (k := 216) rfl (by have q0 := iv_ne (k := 58) rfl hc1; have q1 := iv_nlt (k := 65) rfl hc2; have q2 := iv_gt (k := 90) rfl hc3; have q3 := iv_ne (k := 95) rfl hc4; have q4 := iv_nlt (k := 97) rfl hc5; have q5 := iv_gt (k := 122) rfl hc6; have q6 := iv_lt (k := 192) rfl hc7; omega) : u < (216 : Int32))).1 (by decide) (by decide) k)
                show Gl _ _ _ _ (s₁.setTop (mkF m 64 #[.val (.int u)] []))
                refine Gl.go ?_ (fun t k => XS.iloadN X0.here hx rfl (hb hby d2_64) rfl k)
                show Gl _ _ _ _ (s₁.setTop (mkF m 65 #[.val (.int u)] [(.int u)]))
                refine Gl.go ?_ (fun t k => XS.sipush X0.here hx rfl (hb hby d2_65) k)
                show Gl _ _ _ _ (s₁.setTop (mkF m 68 #[.val (.int u)] [(.int (248 : Int32)), (.int u)]))
                refine Gl.go ?_ (fun t k => XS.icmpYes X0.here hx rfl (pc0 := 68) (pc' := 78) rfl (hb hby d2_68) rfl (tlt (iv_lt' (k := 248) rfl (by have q0 := iv_ne (k := 58) rfl hc1; have q1 := iv_nlt (k := 65) rfl hc2; have q2 := iv_gt (k := 90) rfl hc3; have q3 := iv_ne (k := 95) rfl hc4; have q4 := iv_nlt (k := 97) rfl hc5; have q5 := iv_gt (k := 122) rfl hc6; have q6 := iv_lt (k := 192) rfl hc7; omega) : u < (248 : Int32))).1 (by decide) (by decide) k)
                show Gl _ _ _ _ (s₁.setTop (mkF m 78 #[.val (.int u)] []))
                refine Gl.go ?_ (fun t k => XS.iloadN X0.here hx rfl (hb hby d2_78) rfl k)
                show Gl _ _ _ _ (s₁.setTop (mkF m 79 #[.val (.int u)] [(.int u)]))
                refine Gl.go ?_ (fun t k => XS.sipush X0.here hx rfl (hb hby d2_79) k)
                show Gl _ _ _ _ (s₁.setTop (mkF m 82 #[.val (.int u)] [(.int (880 : Int32)), (.int u)]))
                refine Gl.go ?_ (fun t k => XS.icmpYes X0.here hx rfl (pc0 := 82) (pc' := 92) rfl (hb hby d2_82) rfl (tlt (iv_lt' (k := 880) rfl (by have q0 := iv_ne (k := 58) rfl hc1; have q1 := iv_nlt (k := 65) rfl hc2; have q2 := iv_gt (k := 90) rfl hc3; have q3 := iv_ne (k := 95) rfl hc4; have q4 := iv_nlt (k := 97) rfl hc5; have q5 := iv_gt (k := 122) rfl hc6; have q6 := iv_lt (k := 192) rfl hc7; omega) : u < (880 : Int32))).1 (by decide) (by decide) k)
                show Gl _ _ _ _ (s₁.setTop (mkF m 92 #[.val (.int u)] []))
                refine Gl.go ?_ (fun t k => XS.iloadN X0.here hx rfl (hb hby d2_92) rfl k)
                show Gl _ _ _ _ (s₁.setTop (mkF m 93 #[.val (.int u)] [(.int u)]))
                refine Gl.go ?_ (fun t k => XS.sipush X0.here hx rfl (hb hby d2_93) k)
                show Gl _ _ _ _ (s₁.setTop (mkF m 96 #[.val (.int u)] [(.int (895 : Int32)), (.int u)]))
                refine Gl.go ?_ (fun t k => XS.icmpYes X0.here hx rfl (pc0 := 96) (pc' := 106) rfl (hb hby d2_96) rfl (tlt (iv_lt' (k := 895) rfl (by have q0 := iv_ne (k := 58) rfl hc1; have q1 := iv_nlt (k := 65) rfl hc2; have q2 := iv_gt (k := 90) rfl hc3; have q3 := iv_ne (k := 95) rfl hc4; have q4 := iv_nlt (k := 97) rfl hc5; have q5 := iv_gt (k := 122) rfl hc6; have q6 := iv_lt (k := 192) rfl hc7; omega) : u < (895 : Int32))).1 (by decide) (by decide) k)
                show Gl _ _ _ _ (s₁.setTop (mkF m 106 #[.val (.int u)] []))
                refine Gl.go ?_ (fun t k => XS.iloadN X0.here hx rfl (hb hby d2_106) rfl k)
                show Gl _ _ _ _ (s₁.setTop (mkF m 107 #[.val (.int u)] [(.int u)]))
                refine Gl.go ?_ (fun t k => XS.sipush X0.here hx rfl (hb hby d2_107) k)
                show Gl _ _ _ _ (s₁.setTop (mkF m 110 #[.val (.int u)] [(.int (8204 : Int32)), (.int u)]))
                refine Gl.go ?_ (fun t k => XS.icmpYes X0.here hx rfl (pc0 := 110) (pc' := 120) rfl (hb hby d2_110) rfl (tlt (iv_lt' (k := 8204) rfl (by have q0 := iv_ne (k := 58) rfl hc1; have q1 := iv_nlt (k := 65) rfl hc2; have q2 := iv_gt (k := 90) rfl hc3; have q3 := iv_ne (k := 95) rfl hc4; have q4 := iv_nlt (k := 97) rfl hc5; have q5 := iv_gt (k := 122) rfl hc6; have q6 := iv_lt (k := 192) rfl hc7; omega) : u < (8204 : Int32))).1 (by decide) (by decide) k)
                show Gl _ _ _ _ (s₁.setTop (mkF m 120 #[.val (.int u)] []))
                refine Gl.go ?_ (fun t k => XS.iloadN X0.here hx rfl (hb hby d2_120) rfl k)
                show Gl _ _ _ _ (s₁.setTop (mkF m 121 #[.val (.int u)] [(.int u)]))
                refine Gl.go ?_ (fun t k => XS.sipush X0.here hx rfl (hb hby d2_121) k)
                show Gl _ _ _ _ (s₁.setTop (mkF m 124 #[.val (.int u)] [(.int (8304 : Int32)), (.int u)]))
                refine Gl.go ?_ (fun t k => XS.icmpYes X0.here hx rfl (pc0 := 124) (pc' := 134) rfl (hb hby d2_124) rfl (tlt (iv_lt' (k := 8304) rfl (by have q0 := iv_ne (k := 58) rfl hc1; have q1 := iv_nlt (k := 65) rfl hc2; have q2 := iv_gt (k := 90) rfl hc3; have q3 := iv_ne (k := 95) rfl hc4; have q4 := iv_nlt (k := 97) rfl hc5; have q5 := iv_gt (k := 122) rfl hc6; have q6 := iv_lt (k := 192) rfl hc7; omega) : u < (8304 : Int32))).1 (by decide) (by decide) k)
                show Gl _ _ _ _ (s₁.setTop (mkF m 134 #[.val (.int u)] []))
                refine Gl.go ?_ (fun t k => XS.iloadN X0.here hx rfl (hb hby d2_134) rfl k)
                show Gl _ _ _ _ (s₁.setTop (mkF m 135 #[.val (.int u)] [(.int u)]))
                refine Gl.go ?_ (fun t k => XS.sipush X0.here hx rfl (hb hby d2_135) k)
                show Gl _ _ _ _ (s₁.setTop (mkF m 138 #[.val (.int u)] [(.int (11264 : Int32)), (.int u)]))
                refine Gl.go ?_ (fun t k => XS.icmpYes X0.here hx rfl (pc0 := 138) (pc' := 148) rfl (hb hby d2_138) rfl (tlt (iv_lt' (k := 11264) rfl (by have q0 := iv_ne (k := 58) rfl hc1; have q1 := iv_nlt (k := 65) rfl hc2; have q2 := iv_gt (k := 90) rfl hc3; have q3 := iv_ne (k := 95) rfl hc4; have q4 := iv_nlt (k := 97) rfl hc5; have q5 := iv_gt (k := 122) rfl hc6; have q6 := iv_lt (k := 192) rfl hc7; omega) : u < (11264 : Int32))).1 (by decide) (by decide) k)
                show Gl _ _ _ _ (s₁.setTop (mkF m 148 #[.val (.int u)] []))
                refine Gl.go ?_ (fun t k => XS.iloadN X0.here hx rfl (hb hby d2_148) rfl k)
                show Gl _ _ _ _ (s₁.setTop (mkF m 149 #[.val (.int u)] [(.int u)]))
                refine Gl.go ?_ (fun t k => XS.sipush X0.here hx rfl (hb hby d2_149) k)
                show Gl _ _ _ _ (s₁.setTop (mkF m 152 #[.val (.int u)] [(.int (12289 : Int32)), (.int u)]))
                refine Gl.go ?_ (fun t k => XS.icmpYes X0.here hx rfl (pc0 := 152) (pc' := 161) rfl (hb hby d2_152) rfl (tlt (iv_lt' (k := 12289) rfl (by have q0 := iv_ne (k := 58) rfl hc1; have q1 := iv_nlt (k := 65) rfl hc2; have q2 := iv_gt (k := 90) rfl hc3; have q3 := iv_ne (k := 95) rfl hc4; have q4 := iv_nlt (k := 97) rfl hc5; have q5 := iv_gt (k := 122) rfl hc6; have q6 := iv_lt (k := 192) rfl hc7; omega) : u < (12289 : Int32))).1 (by decide) (by decide) k)
                show Gl _ _ _ _ (s₁.setTop (mkF m 161 #[.val (.int u)] []))
                refine Gl.go ?_ (fun t k => XS.iloadN X0.here hx rfl (hb hby d2_161) rfl k)
                show Gl _ _ _ _ (s₁.setTop (mkF m 162 #[.val (.int u)] [(.int u)]))
                refine Gl.go ?_ (X0.ldcInt hx hown (mvT hZ (hw _ (List.mem_of_getElem? (i := 2) rfl))) (g := (mkF m 162 #[.val (.int u)] [(.int u)])) rfl (hb hby d2_162))
                show Gl _ _ _ _ (s₁.setTop (mkF m 164 #[.val (.int u)] [(.int (63744 : Int32)), (.int u)]))
                refine Gl.go ?_ (fun t k => XS.icmpYes X0.here hx rfl (pc0 := 164) (pc' := 173) rfl (hb hby d2_164) rfl (tlt (iv_lt' (k := 63744) rfl (by have q0 := iv_ne (k := 58) rfl hc1; have q1 := iv_nlt (k := 65) rfl hc2; have q2 := iv_gt (k := 90) rfl hc3; have q3 := iv_ne (k := 95) rfl hc4; have q4 := iv_nlt (k := 97) rfl hc5; have q5 := iv_gt (k := 122) rfl hc6; have q6 := iv_lt (k := 192) rfl hc7; omega) : u < (63744 : Int32))).1 (by decide) (by decide) k)
                show Gl _ _ _ _ (s₁.setTop (mkF m 173 #[.val (.int u)] []))
                refine Gl.go ?_ (fun t k => XS.iloadN X0.here hx rfl (hb hby d2_173) rfl k)
                show Gl _ _ _ _ (s₁.setTop (mkF m 174 #[.val (.int u)] [(.int u)]))
                refine Gl.go ?_ (X0.ldcInt hx hown (mvT hZ (hw _ (List.mem_of_getElem? (i := 4) rfl))) (g := (mkF m 174 #[.val (.int u)] [(.int u)])) rfl (hb hby d2_174))
                show Gl _ _ _ _ (s₁.setTop (mkF m 176 #[.val (.int u)] [(.int (65008 : Int32)), (.int u)]))
                refine Gl.go ?_ (fun t k => XS.icmpYes X0.here hx rfl (pc0 := 176) (pc' := 185) rfl (hb hby d2_176) rfl (tlt (iv_lt' (k := 65008) rfl (by have q0 := iv_ne (k := 58) rfl hc1; have q1 := iv_nlt (k := 65) rfl hc2; have q2 := iv_gt (k := 90) rfl hc3; have q3 := iv_ne (k := 95) rfl hc4; have q4 := iv_nlt (k := 97) rfl hc5; have q5 := iv_gt (k := 122) rfl hc6; have q6 := iv_lt (k := 192) rfl hc7; omega) : u < (65008 : Int32))).1 (by decide) (by decide) k)
                show Gl _ _ _ _ (s₁.setTop (mkF m 185 #[.val (.int u)] []))
                refine Gl.go ?_ (fun t k => XS.iloadN X0.here hx rfl (hb hby d2_185) rfl k)
                show Gl _ _ _ _ (s₁.setTop (mkF m 186 #[.val (.int u)] [(.int u)]))
                refine Gl.go ?_ (X0.ldcInt hx hown (mvT hZ (hw _ (List.mem_of_getElem? (i := 6) rfl))) (g := (mkF m 186 #[.val (.int u)] [(.int u)])) rfl (hb hby d2_186))
                show Gl _ _ _ _ (s₁.setTop (mkF m 188 #[.val (.int u)] [(.int (65536 : Int32)), (.int u)]))
                refine Gl.go ?_ (fun t k => XS.icmpYes X0.here hx rfl (pc0 := 188) (pc' := 201) rfl (hb hby d2_188) rfl (tlt (iv_lt' (k := 65536) rfl (by have q0 := iv_ne (k := 58) rfl hc1; have q1 := iv_nlt (k := 65) rfl hc2; have q2 := iv_gt (k := 90) rfl hc3; have q3 := iv_ne (k := 95) rfl hc4; have q4 := iv_nlt (k := 97) rfl hc5; have q5 := iv_gt (k := 122) rfl hc6; have q6 := iv_lt (k := 192) rfl hc7; omega) : u < (65536 : Int32))).1 (by decide) (by decide) k)
                show Gl _ _ _ _ (s₁.setTop (mkF m 201 #[.val (.int u)] []))
                refine Gl.go ?_ (fun t k => XS.iconst X0.here hx rfl (hb hby d2_201) k)
                show Gl _ _ _ _ (s₁.setTop (mkF m 202 #[.val (.int u)] [(.int (0 : Int32))]))
                obtain ⟨fs, hr, hrun, hended, hW, hsame⟩ := X0.leave (v := some (.int (0 : Int32))) (fun h => by rw [Bd.returns] at h; cases h) (BodyLoose.notSynchronized Bd)
                exact Gl.mk ⟨_, _, retN X0 hx (t := .boolean) Bd.returns (by simp) (hb hby d2_202) hr, hrun, hended, _, _, rfl, ⟨congrArg (fun z => some (Value.int z)) ((if_neg hc1).trans ((if_neg hc2).trans ((if_pos hc3).trans ((if_neg hc4).trans ((if_neg hc5).trans ((if_pos hc6).trans ((if_pos hc7).trans (rfl)))))))).symm, rfl, e0⟩, ⟨_, rfl⟩, hW, hsame.mono (by decide) (by decide)⟩
              · refine Gl.go ?_ (fun t k => XS.icmpNo X0.here hx rfl (hb hby d2_40) rfl (flt hc7).1 k)
                show Gl _ _ _ _ (s₁.setTop (mkF m 43 #[.val (.int u)] []))
                refine Gl.go ?_ (fun t k => XS.iloadN X0.here hx rfl (hb hby d2_43) rfl k)
                show Gl _ _ _ _ (s₁.setTop (mkF m 44 #[.val (.int u)] [(.int u)]))
                refine Gl.go ?_ (fun t k => XS.sipush X0.here hx rfl (hb hby d2_44) k)
                show Gl _ _ _ _ (s₁.setTop (mkF m 47 #[.val (.int u)] [(.int (214 : Int32)), (.int u)]))
                by_cases hc8 : (214 : Int32) < u
                · refine Gl.go ?_ (fun t k => XS.icmpNo X0.here hx rfl (hb hby d2_47) rfl (tlt hc8).2.2.2 k)
                  show Gl _ _ _ _ (s₁.setTop (mkF m 50 #[.val (.int u)] []))
                  refine Gl.go ?_ (fun t k => XS.iloadN X0.here hx rfl (hb hby d2_50) rfl k)
                  show Gl _ _ _ _ (s₁.setTop (mkF m 51 #[.val (.int u)] [(.int u)]))
                  refine Gl.go ?_ (fun t k => XS.sipush X0.here hx rfl (hb hby d2_51) k)
                  show Gl _ _ _ _ (s₁.setTop (mkF m 54 #[.val (.int u)] [(.int (216 : Int32)), (.int u)]))
                  by_cases hc9 : u < (216 : Int32)
                  · refine Gl.go ?_ (fun t k => XS.icmpYes X0.here hx rfl (pc0 := 54) (pc' := 64) rfl (hb hby d2_54) rfl (tlt hc9).1 (by decide) (by decide) k)
                    show Gl _ _ _ _ (s₁.setTop (mkF m 64 #[.val (.int u)] []))
                    refine Gl.go ?_ (fun t k => XS.iloadN X0.here hx rfl (hb hby d2_64) rfl k)
                    show Gl _ _ _ _ (s₁.setTop (mkF m 65 #[.val (.int u)] [(.int u)]))
                    refine Gl.go ?_ (fun t k => XS.sipush X0.here hx rfl (hb hby d2_65) k)
                    show Gl _ _ _ _ (s₁.setTop (mkF m 68 #[.val (.int u)] [(.int (248 : Int32)), (.int u)]))
                    refine Gl.go ?_ (fun t k => XS.icmpYes X0.here hx rfl (pc0 := 68) (pc' := 78) rfl (hb hby d2_68) rfl (tlt (iv_lt' (k := 248) rfl (by have q0 := iv_ne (k := 58) rfl hc1; have q1 := iv_nlt (k := 65) rfl hc2; have q2 := iv_gt (k := 90) rfl hc3; have q3 := iv_ne (k := 95) rfl hc4; have q4 := iv_nlt (k := 97) rfl hc5; have q5 := iv_gt (k := 122) rfl hc6; have q6 := iv_nlt (k := 192) rfl hc7; have q7 := iv_gt (k := 214) rfl hc8; have q8 := iv_lt (k := 216) rfl hc9; omega) : u < (248 : Int32))).1 (by decide) (by decide) k)
                    show Gl _ _ _ _ (s₁.setTop (mkF m 78 #[.val (.int u)] []))
                    refine Gl.go ?_ (fun t k => XS.iloadN X0.here hx rfl (hb hby d2_78) rfl k)
                    show Gl _ _ _ _ (s₁.setTop (mkF m 79 #[.val (.int u)] [(.int u)]))
                    refine Gl.go ?_ (fun t k => XS.sipush X0.here hx rfl (hb hby d2_79) k)
                    show Gl _ _ _ _ (s₁.setTop (mkF m 82 #[.val (.int u)] [(.int (880 : Int32)), (.int u)]))
                    refine Gl.go ?_ (fun t k => XS.icmpYes X0.here hx rfl (pc0 := 82) (pc' := 92) rfl (hb hby d2_82) rfl (tlt (iv_lt' (k := 880) rfl (by have q0 := iv_ne (k := 58) rfl hc1; have q1 := iv_nlt (k := 65) rfl hc2; have q2 := iv_gt (k := 90) rfl hc3; have q3 := iv_ne (k := 95) rfl hc4; have q4 := iv_nlt (k := 97) rfl hc5; have q5 := iv_gt (k := 122) rfl hc6; have q6 := iv_nlt (k := 192) rfl hc7; have q7 := iv_gt (k := 214) rfl hc8; have q8 := iv_lt (k := 216) rfl hc9; omega) : u < (880 : Int32))).1 (by decide) (by decide) k)
                    show Gl _ _ _ _ (s₁.setTop (mkF m 92 #[.val (.int u)] []))
                    refine Gl.go ?_ (fun t k => XS.iloadN X0.here hx rfl (hb hby d2_92) rfl k)
                    show Gl _ _ _ _ (s₁.setTop (mkF m 93 #[.val (.int u)] [(.int u)]))
                    refine Gl.go ?_ (fun t k => XS.sipush X0.here hx rfl (hb hby d2_93) k)
                    show Gl _ _ _ _ (s₁.setTop (mkF m 96 #[.val (.int u)] [(.int (895 : Int32)), (.int u)]))
                    refine Gl.go ?_ (fun t k => XS.icmpYes X0.here hx rfl (pc0 := 96) (pc' := 106) rfl (hb hby d2_96) rfl (tlt (iv_lt' (k := 895) rfl (by have q0 := iv_ne (k := 58) rfl hc1; have q1 := iv_nlt (k := 65) rfl hc2; have q2 := iv_gt (k := 90) rfl hc3; have q3 := iv_ne (k := 95) rfl hc4; have q4 := iv_nlt (k := 97) rfl hc5; have q5 := iv_gt (k := 122) rfl hc6; have q6 := iv_nlt (k := 192) rfl hc7; have q7 := iv_gt (k := 214) rfl hc8; have q8 := iv_lt (k := 216) rfl hc9; omega) : u < (895 : Int32))).1 (by decide) (by decide) k)
                    show Gl _ _ _ _ (s₁.setTop (mkF m 106 #[.val (.int u)] []))
                    refine Gl.go ?_ (fun t k => XS.iloadN X0.here hx rfl (hb hby d2_106) rfl k)
                    show Gl _ _ _ _ (s₁.setTop (mkF m 107 #[.val (.int u)] [(.int u)]))
                    refine Gl.go ?_ (fun t k => XS.sipush X0.here hx rfl (hb hby d2_107) k)
                    show Gl _ _ _ _ (s₁.setTop (mkF m 110 #[.val (.int u)] [(.int (8204 : Int32)), (.int u)]))
                    refine Gl.go ?_ (fun t k => XS.icmpYes X0.here hx rfl (pc0 := 110) (pc' := 120) rfl (hb hby d2_110) rfl (tlt (iv_lt' (k := 8204) rfl (by have q0 := iv_ne (k := 58) rfl hc1; have q1 := iv_nlt (k := 65) rfl hc2; have q2 := iv_gt (k := 90) rfl hc3; have q3 := iv_ne (k := 95) rfl hc4; have q4 := iv_nlt (k := 97) rfl hc5; have q5 := iv_gt (k := 122) rfl hc6; have q6 := iv_nlt (k := 192) rfl hc7; have q7 := iv_gt (k := 214) rfl hc8; have q8 := iv_lt (k := 216) rfl hc9; omega) : u < (8204 : Int32))).1 (by decide) (by decide) k)
                    show Gl _ _ _ _ (s₁.setTop (mkF m 120 #[.val (.int u)] []))
                    refine Gl.go ?_ (fun t k => XS.iloadN X0.here hx rfl (hb hby d2_120) rfl k)
                    show Gl _ _ _ _ (s₁.setTop (mkF m 121 #[.val (.int u)] [(.int u)]))
                    refine Gl.go ?_ (fun t k => XS.sipush X0.here hx rfl (hb hby d2_121) k)
                    show Gl _ _ _ _ (s₁.setTop (mkF m 124 #[.val (.int u)] [(.int (8304 : Int32)), (.int u)]))
                    refine Gl.go ?_ (fun t k => XS.icmpYes X0.here hx rfl (pc0 := 124) (pc' := 134) rfl (hb hby d2_124) rfl (tlt (iv_lt' (k := 8304) rfl (by have q0 := iv_ne (k := 58) rfl hc1; have q1 := iv_nlt (k := 65) rfl hc2; have q2 := iv_gt (k := 90) rfl hc3; have q3 := iv_ne (k := 95) rfl hc4; have q4 := iv_nlt (k := 97) rfl hc5; have q5 := iv_gt (k := 122) rfl hc6; have q6 := iv_nlt (k := 192) rfl hc7; have q7 := iv_gt (k := 214) rfl hc8; have q8 := iv_lt (k := 216) rfl hc9; omega) : u < (8304 : Int32))).1 (by decide) (by decide) k)
                    show Gl _ _ _ _ (s₁.setTop (mkF m 134 #[.val (.int u)] []))
                    refine Gl.go ?_ (fun t k => XS.iloadN X0.here hx rfl (hb hby d2_134) rfl k)
                    show Gl _ _ _ _ (s₁.setTop (mkF m 135 #[.val (.int u)] [(.int u)]))
                    refine Gl.go ?_ (fun t k => XS.sipush X0.here hx rfl (hb hby d2_135) k)
                    show Gl _ _ _ _ (s₁.setTop (mkF m 138 #[.val (.int u)] [(.int (11264 : Int32)), (.int u)]))
                    refine Gl.go ?_ (fun t k => XS.icmpYes X0.here hx rfl (pc0 := 138) (pc' := 148) rfl (hb hby d2_138) rfl (tlt (iv_lt' (k := 11264) rfl (by have q0 := iv_ne (k := 58) rfl hc1; have q1 := iv_nlt (k := 65) rfl hc2; have q2 := iv_gt (k := 90) rfl hc3; have q3 := iv_ne (k := 95) rfl hc4; have q4 := iv_nlt (k := 97) rfl hc5; have q5 := iv_gt (k := 122) rfl hc6; have q6 := iv_nlt (k := 192) rfl hc7; have q7 := iv_gt (k := 214) rfl hc8; have q8 := iv_lt (k := 216) rfl hc9; omega) : u < (11264 : Int32))).1 (by decide) (by decide) k)
                    show Gl _ _ _ _ (s₁.setTop (mkF m 148 #[.val (.int u)] []))
                    refine Gl.go ?_ (fun t k => XS.iloadN X0.here hx rfl (hb hby d2_148) rfl k)
                    show Gl _ _ _ _ (s₁.setTop (mkF m 149 #[.val (.int u)] [(.int u)]))
                    refine Gl.go ?_ (fun t k => XS.sipush X0.here hx rfl (hb hby d2_149) k)
                    show Gl _ _ _ _ (s₁.setTop (mkF m 152 #[.val (.int u)] [(.int (12289 : Int32)), (.int u)]))
                    refine Gl.go ?_ (fun t k => XS.icmpYes X0.here hx rfl (pc0 := 152) (pc' := 161) rfl (hb hby d2_152) rfl (tlt (iv_lt' (k := 12289) rfl (by have q0 := iv_ne (k := 58) rfl hc1; have q1 := iv_nlt (k := 65) rfl hc2; have q2 := iv_gt (k := 90) rfl hc3; have q3 := iv_ne (k := 95) rfl hc4; have q4 := iv_nlt (k := 97) rfl hc5; have q5 := iv_gt (k := 122) rfl hc6; have q6 := iv_nlt (k := 192) rfl hc7; have q7 := iv_gt (k := 214) rfl hc8; have q8 := iv_lt (k := 216) rfl hc9; omega) : u < (12289 : Int32))).1 (by decide) (by decide) k)
                    show Gl _ _ _ _ (s₁.setTop (mkF m 161 #[.val (.int u)] []))
                    refine Gl.go ?_ (fun t k => XS.iloadN X0.here hx rfl (hb hby d2_161) rfl k)
                    show Gl _ _ _ _ (s₁.setTop (mkF m 162 #[.val (.int u)] [(.int u)]))
                    refine Gl.go ?_ (X0.ldcInt hx hown (mvT hZ (hw _ (List.mem_of_getElem? (i := 2) rfl))) (g := (mkF m 162 #[.val (.int u)] [(.int u)])) rfl (hb hby d2_162))
                    show Gl _ _ _ _ (s₁.setTop (mkF m 164 #[.val (.int u)] [(.int (63744 : Int32)), (.int u)]))
                    refine Gl.go ?_ (fun t k => XS.icmpYes X0.here hx rfl (pc0 := 164) (pc' := 173) rfl (hb hby d2_164) rfl (tlt (iv_lt' (k := 63744) rfl (by have q0 := iv_ne (k := 58) rfl hc1; have q1 := iv_nlt (k := 65) rfl hc2; have q2 := iv_gt (k := 90) rfl hc3; have q3 := iv_ne (k := 95) rfl hc4; have q4 := iv_nlt (k := 97) rfl hc5; have q5 := iv_gt (k := 122) rfl hc6; have q6 := iv_nlt (k := 192) rfl hc7; have q7 := iv_gt (k := 214) rfl hc8; have q8 := iv_lt (k := 216) rfl hc9; omega) : u < (63744 : Int32))).1 (by decide) (by decide) k)
                    show Gl _ _ _ _ (s₁.setTop (mkF m 173 #[.val (.int u)] []))
                    refine Gl.go ?_ (fun t k => XS.iloadN X0.here hx rfl (hb hby d2_173) rfl k)
                    show Gl _ _ _ _ (s₁.setTop (mkF m 174 #[.val (.int u)] [(.int u)]))
                    refine Gl.go ?_ (X0.ldcInt hx hown (mvT hZ (hw _ (List.mem_of_getElem? (i := 4) rfl))) (g := (mkF m 174 #[.val (.int u)] [(.int u)])) rfl (hb hby d2_174))
                    show Gl _ _ _ _ (s₁.setTop (mkF m 176 #[.val (.int u)] [(.int (65008 : Int32)), (.int u)]))
                    refine Gl.go ?_ (fun t k => XS.icmpYes X0.here hx rfl (pc0 := 176) (pc' := 185) rfl (hb hby d2_176) rfl (tlt (iv_lt' (k := 65008) rfl (by have q0 := iv_ne (k := 58) rfl hc1; have q1 := iv_nlt (k := 65) rfl hc2; have q2 := iv_gt (k := 90) rfl hc3; have q3 := iv_ne (k := 95) rfl hc4; have q4 := iv_nlt (k := 97) rfl hc5; have q5 := iv_gt (k := 122) rfl hc6; have q6 := iv_nlt (k := 192) rfl hc7; have q7 := iv_gt (k := 214) rfl hc8; have q8 := iv_lt (k := 216) rfl hc9; omega) : u < (65008 : Int32))).1 (by decide) (by decide) k)
                    show Gl _ _ _ _ (s₁.setTop (mkF m 185 #[.val (.int u)] []))
                    refine Gl.go ?_ (fun t k => XS.iloadN X0.here hx rfl (hb hby d2_185) rfl k)
                    show Gl _ _ _ _ (s₁.setTop (mkF m 186 #[.val (.int u)] [(.int u)]))
                    refine Gl.go ?_ (X0.ldcInt hx hown (mvT hZ (hw _ (List.mem_of_getElem? (i := 6) rfl))) (g := (mkF m 186 #[.val (.int u)] [(.int u)])) rfl (hb hby d2_186))
                    show Gl _ _ _ _ (s₁.setTop (mkF m 188 #[.val (.int u)] [(.int (65536 : Int32)), (.int u)]))
                    refine Gl.go ?_ (fun t k => XS.icmpYes X0.here hx rfl (pc0 := 188) (pc' := 201) rfl (hb hby d2_188) rfl (tlt (iv_lt' (k := 65536) rfl (by have q0 := iv_ne (k := 58) rfl hc1; have q1 := iv_nlt (k := 65) rfl hc2; have q2 := iv_gt (k := 90) rfl hc3; have q3 := iv_ne (k := 95) rfl hc4; have q4 := iv_nlt (k := 97) rfl hc5; have q5 := iv_gt (k := 122) rfl hc6; have q6 := iv_nlt (k := 192) rfl hc7; have q7 := iv_gt (k := 214) rfl hc8; have q8 := iv_lt (k := 216) rfl hc9; omega) : u < (65536 : Int32))).1 (by decide) (by decide) k)
                    show Gl _ _ _ _ (s₁.setTop (mkF m 201 #[.val (.int u)] []))
                    refine Gl.go ?_ (fun t k => XS.iconst X0.here hx rfl (hb hby d2_201) k)
                    show Gl _ _ _ _ (s₁.setTop (mkF m 202 #[.val (.int u)] [(.int (0 : Int32))]))
                    obtain ⟨fs, hr, hrun, hended, hW, hsame⟩ := X0.leave (v := some (.int (0 : Int32))) (fun h => by rw [Bd.returns] at h; cases h) (BodyLoose.notSynchronized Bd)
                    exact Gl.mk ⟨_, _, retN X0 hx (t := .boolean) Bd.returns (by simp) (hb hby d2_202) hr, hrun, hended, _, _, rfl, ⟨congrArg (fun z => some (Value.int z)) ((if_neg hc1).trans ((if_neg hc2).trans ((if_pos hc3).trans ((if_neg hc4).trans ((if_neg hc5).trans ((if_pos hc6).trans ((if_neg hc7).trans ((if_pos hc8).trans ((if_pos hc9).trans (rfl)))))))))).symm, rfl, e0⟩, ⟨_, rfl⟩, hW, hsame.mono (by decide) (by decide)⟩
                  · refine Gl.go ?_ (fun t k => XS.icmpNo X0.here hx rfl (hb hby d2_54) rfl (flt hc9).1 k)
                    show Gl _ _ _ _ (s₁.setTop (mkF m 57 #[.val (.int u)] []))
                    refine Gl.go ?_ (fun t k => XS.iloadN X0.here hx rfl (hb hby d2_57) rfl k)
                    show Gl _ _ _ _ (s₁.setTop (mkF m 58 #[.val (.int u)] [(.int u)]))
                    refine Gl.go ?_ (fun t k => XS.sipush X0.here hx rfl (hb hby d2_58) k)
                    show Gl _ _ _ _ (s₁.setTop (mkF m 61 #[.val (.int u)] [(.int (246 : Int32)), (.int u)]))
                    by_cases hc10 : (246 : Int32) < u
                    · refine Gl.go ?_ (fun t k => XS.icmpNo X0.here hx rfl (hb hby d2_61) rfl (tlt hc10).2.2.2 k)
                      show Gl _ _ _ _ (s₁.setTop (mkF m 64 #[.val (.int u)] []))
                      refine Gl.go ?_ (fun t k => XS.iloadN X0.here hx rfl (hb hby d2_64) rfl k)
                      show Gl _ _ _ _ (s₁.setTop (mkF m 65 #[.val (.int u)] [(.int u)]))
                      refine Gl.go ?_ (fun t k => XS.sipush X0.here hx rfl (hb hby d2_65) k)
                      show Gl _ _ _ _ (s₁.setTop (mkF m 68 #[.val (.int u)] [(.int (248 : Int32)), (.int u)]))
                      by_cases hc11 : u < (248 : Int32)
                      · refine Gl.go ?_ (fun t k => XS.icmpYes X0.here hx rfl (pc0 := 68) (pc' := 78) rfl (hb hby d2_68) rfl (tlt hc11).1 (by decide) (by decide) k)
                        show Gl _ _ _ _ (s₁.setTop (mkF m 78 #[.val (.int u)] []))
                        refine Gl.go ?_ (fun t k => XS.iloadN X0.here hx rfl (hb hby d2_78) rfl k)
                        show Gl _ _ _ _ (s₁.setTop (mkF m 79 #[.val (.int u)] [(.int u)]))
                        refine Gl.go ?_ (fun t k => XS.sipush X0.here hx rfl (hb hby d2_79) k)
                        show Gl _ _ _ _ (s₁.setTop (mkF m 82 #[.val (.int u)] [(.int (880 : Int32)), (.int u)]))
                        refine Gl.go ?_ (fun t k => XS.icmpYes X0.here hx rfl (pc0 := 82) (pc' := 92) rfl (hb hby d2_82) rfl (tlt (iv_lt' (k := 880) rfl (by have q0 := iv_ne (k := 58) rfl hc1; have q1 := iv_nlt (k := 65) rfl hc2; have q2 := iv_gt (k := 90) rfl hc3; have q3 := iv_ne (k := 95) rfl hc4; have q4 := iv_nlt (k := 97) rfl hc5; have q5 := iv_gt (k := 122) rfl hc6; have q6 := iv_nlt (k := 192) rfl hc7; have q7 := iv_gt (k := 214) rfl hc8; have q8 := iv_nlt (k := 216) rfl hc9; have q9 := iv_gt (k := 246) rfl hc10; have q10 := iv_lt (k := 248) rfl hc11; omega) : u < (880 : Int32))).1 (by decide) (by decide) k)
                        show Gl _ _ _ _ (s₁.setTop (mkF m 92 #[.val (.int u)] []))
                        refine Gl.go ?_ (fun t k => XS.iloadN X0.here hx rfl (hb hby d2_92) rfl k)
                        show Gl _ _ _ _ (s₁.setTop (mkF m 93 #[.val (.int u)] [(.int u)]))
                        refine Gl.go ?_ (fun t k => XS.sipush X0.here hx rfl (hb hby d2_93) k)
                        show Gl _ _ _ _ (s₁.setTop (mkF m 96 #[.val (.int u)] [(.int (895 : Int32)), (.int u)]))
                        refine Gl.go ?_ (fun t k => XS.icmpYes X0.here hx rfl (pc0 := 96) (pc' := 106) rfl (hb hby d2_96) rfl (tlt (iv_lt' (k := 895) rfl (by have q0 := iv_ne (k := 58) rfl hc1; have q1 := iv_nlt (k := 65) rfl hc2; have q2 := iv_gt (k := 90) rfl hc3; have q3 := iv_ne (k := 95) rfl hc4; have q4 := iv_nlt (k := 97) rfl hc5; have q5 := iv_gt (k := 122) rfl hc6; have q6 := iv_nlt (k := 192) rfl hc7; have q7 := iv_gt (k := 214) rfl hc8; have q8 := iv_nlt (k := 216) rfl hc9; have q9 := iv_gt (k := 246) rfl hc10; have q10 := iv_lt (k := 248) rfl hc11; omega) : u < (895 : Int32))).1 (by decide) (by decide) k)
                        show Gl _ _ _ _ (s₁.setTop (mkF m 106 #[.val (.int u)] []))
                        refine Gl.go ?_ (fun t k => XS.iloadN X0.here hx rfl (hb hby d2_106) rfl k)
                        show Gl _ _ _ _ (s₁.setTop (mkF m 107 #[.val (.int u)] [(.int u)]))
                        refine Gl.go ?_ (fun t k => XS.sipush X0.here hx rfl (hb hby d2_107) k)
                        show Gl _ _ _ _ (s₁.setTop (mkF m 110 #[.val (.int u)] [(.int (8204 : Int32)), (.int u)]))
                        refine Gl.go ?_ (fun t k => XS.icmpYes X0.here hx rfl (pc0 := 110) (pc' := 120) rfl (hb hby d2_110) rfl (tlt (iv_lt' (k := 8204) rfl (by have q0 := iv_ne (k := 58) rfl hc1; have q1 := iv_nlt (k := 65) rfl hc2; have q2 := iv_gt (k := 90) rfl hc3; have q3 := iv_ne (k := 95) rfl hc4; have q4 := iv_nlt (k := 97) rfl hc5; have q5 := iv_gt (k := 122) rfl hc6; have q6 := iv_nlt (k := 192) rfl hc7; have q7 := iv_gt (k := 214) rfl hc8; have q8 := iv_nlt (k := 216) rfl hc9; have q9 := iv_gt (k := 246) rfl hc10; have q10 := iv_lt (k := 248) rfl hc11; omega) : u < (8204 : Int32))).1 (by decide) (by decide) k)
                        show Gl _ _ _ _ (s₁.setTop (mkF m 120 #[.val (.int u)] []))
                        refine Gl.go ?_ (fun t k => XS.iloadN X0.here hx rfl (hb hby d2_120) rfl k)
                        show Gl _ _ _ _ (s₁.setTop (mkF m 121 #[.val (.int u)] [(.int u)]))
                        refine Gl.go ?_ (fun t k => XS.sipush X0.here hx rfl (hb hby d2_121) k)
                        show Gl _ _ _ _ (s₁.setTop (mkF m 124 #[.val (.int u)] [(.int (8304 : Int32)), (.int u)]))
                        refine Gl.go ?_ (fun t k => XS.icmpYes X0.here hx rfl (pc0 := 124) (pc' := 134) rfl (hb hby d2_124) rfl (tlt (iv_lt' (k := 8304) rfl (by have q0 := iv_ne (k := 58) rfl hc1; have q1 := iv_nlt (k := 65) rfl hc2; have q2 := iv_gt (k := 90) rfl hc3; have q3 := iv_ne (k := 95) rfl hc4; have q4 := iv_nlt (k := 97) rfl hc5; have q5 := iv_gt (k := 122) rfl hc6; have q6 := iv_nlt (k := 192) rfl hc7; have q7 := iv_gt (k := 214) rfl hc8; have q8 := iv_nlt (k := 216) rfl hc9; have q9 := iv_gt (k := 246) rfl hc10; have q10 := iv_lt (k := 248) rfl hc11; omega) : u < (8304 : Int32))).1 (by decide) (by decide) k)
                        show Gl _ _ _ _ (s₁.setTop (mkF m 134 #[.val (.int u)] []))
                        refine Gl.go ?_ (fun t k => XS.iloadN X0.here hx rfl (hb hby d2_134) rfl k)
                        show Gl _ _ _ _ (s₁.setTop (mkF m 135 #[.val (.int u)] [(.int u)]))
                        refine Gl.go ?_ (fun t k => XS.sipush X0.here hx rfl (hb hby d2_135) k)
                        show Gl _ _ _ _ (s₁.setTop (mkF m 138 #[.val (.int u)] [(.int (11264 : Int32)), (.int u)]))
                        refine Gl.go ?_ (fun t k => XS.icmpYes X0.here hx rfl (pc0 := 138) (pc' := 148) rfl (hb hby d2_138) rfl (tlt (iv_lt' (k := 11264) rfl (by have q0 := iv_ne (k := 58) rfl hc1; have q1 := iv_nlt (k := 65) rfl hc2; have q2 := iv_gt (k := 90) rfl hc3; have q3 := iv_ne (k := 95) rfl hc4; have q4 := iv_nlt (k := 97) rfl hc5; have q5 := iv_gt (k := 122) rfl hc6; have q6 := iv_nlt (k := 192) rfl hc7; have q7 := iv_gt (k := 214) rfl hc8; have q8 := iv_nlt (k := 216) rfl hc9; have q9 := iv_gt (k := 246) rfl hc10; have q10 := iv_lt (k := 248) rfl hc11; omega) : u < (11264 : Int32))).1 (by decide) (by decide) k)
                        show Gl _ _ _ _ (s₁.setTop (mkF m 148 #[.val (.int u)] []))
                        refine Gl.go ?_ (fun t k => XS.iloadN X0.here hx rfl (hb hby d2_148) rfl k)
                        show Gl _ _ _ _ (s₁.setTop (mkF m 149 #[.val (.int u)] [(.int u)]))
                        refine Gl.go ?_ (fun t k => XS.sipush X0.here hx rfl (hb hby d2_149) k)
                        show Gl _ _ _ _ (s₁.setTop (mkF m 152 #[.val (.int u)] [(.int (12289 : Int32)), (.int u)]))
                        refine Gl.go ?_ (fun t k => XS.icmpYes X0.here hx rfl (pc0 := 152) (pc' := 161) rfl (hb hby d2_152) rfl (tlt (iv_lt' (k := 12289) rfl (by have q0 := iv_ne (k := 58) rfl hc1; have q1 := iv_nlt (k := 65) rfl hc2; have q2 := iv_gt (k := 90) rfl hc3; have q3 := iv_ne (k := 95) rfl hc4; have q4 := iv_nlt (k := 97) rfl hc5; have q5 := iv_gt (k := 122) rfl hc6; have q6 := iv_nlt (k := 192) rfl hc7; have q7 := iv_gt (k := 214) rfl hc8; have q8 := iv_nlt (k := 216) rfl hc9; have q9 := iv_gt (k := 246) rfl hc10; have q10 := iv_lt (k := 248) rfl hc11; omega) : u < (12289 : Int32))).1 (by decide) (by decide) k)
                        show Gl _ _ _ _ (s₁.setTop (mkF m 161 #[.val (.int u)] []))
                        refine Gl.go ?_ (fun t k => XS.iloadN X0.here hx rfl (hb hby d2_161) rfl k)
                        show Gl _ _ _ _ (s₁.setTop (mkF m 162 #[.val (.int u)] [(.int u)]))
                        refine Gl.go ?_ (X0.ldcInt hx hown (mvT hZ (hw _ (List.mem_of_getElem? (i := 2) rfl))) (g := (mkF m 162 #[.val (.int u)] [(.int u)])) rfl (hb hby d2_162))
                        show Gl _ _ _ _ (s₁.setTop (mkF m 164 #[.val (.int u)] [(.int (63744 : Int32)), (.int u)]))
                        refine Gl.go ?_ (fun t k => XS.icmpYes X0.here hx rfl (pc0 := 164) (pc' := 173) rfl (hb hby d2_164) rfl (tlt (iv_lt' (k := 63744) rfl (by have q0 := iv_ne (k := 58) rfl hc1; have q1 := iv_nlt (k := 65) rfl hc2; have q2 := iv_gt (k := 90) rfl hc3; have q3 := iv_ne (k := 95) rfl hc4; have q4 := iv_nlt (k := 97) rfl hc5; have q5 := iv_gt (k := 122) rfl hc6; have q6 := iv_nlt (k := 192) rfl hc7; have q7 := iv_gt (k := 214) rfl hc8; have q8 := iv_nlt (k := 216) rfl hc9; have q9 := iv_gt (k := 246) rfl hc10; have q10 := iv_lt (k := 248) rfl hc11; omega) : u < (63744 : Int32))).1 (by decide) (by decide) k)
                        show Gl _ _ _ _ (s₁.setTop (mkF m 173 #[.val (.int u)] []))
                        refine Gl.go ?_ (fun t k => XS.iloadN X0.here hx rfl (hb hby d2_173) rfl k)
                        show Gl _ _ _ _ (s₁.setTop (mkF m 174 #[.val (.int u)] [(.int u)]))
                        refine Gl.go ?_ (X0.ldcInt hx hown (mvT hZ (hw _ (List.mem_of_getElem? (i := 4) rfl))) (g := (mkF m 174 #[.val (.int u)] [(.int u)])) rfl (hb hby d2_174))
                        show Gl _ _ _ _ (s₁.setTop (mkF m 176 #[.val (.int u)] [(.int (65008 : Int32)), (.int u)]))
                        refine Gl.go ?_ (fun t k => XS.icmpYes X0.here hx rfl (pc0 := 176) (pc' := 185) rfl (hb hby d2_176) rfl (tlt (iv_lt' (k := 65008) rfl (by have q0 := iv_ne (k := 58) rfl hc1; have q1 := iv_nlt (k := 65) rfl hc2; have q2 := iv_gt (k := 90) rfl hc3; have q3 := iv_ne (k := 95) rfl hc4; have q4 := iv_nlt (k := 97) rfl hc5; have q5 := iv_gt (k := 122) rfl hc6; have q6 := iv_nlt (k := 192) rfl hc7; have q7 := iv_gt (k := 214) rfl hc8; have q8 := iv_nlt (k := 216) rfl hc9; have q9 := iv_gt (k := 246) rfl hc10; have q10 := iv_lt (k := 248) rfl hc11; omega) : u < (65008 : Int32))).1 (by decide) (by decide) k)
                        show Gl _ _ _ _ (s₁.setTop (mkF m 185 #[.val (.int u)] []))
                        refine Gl.go ?_ (fun t k => XS.iloadN X0.here hx rfl (hb hby d2_185) rfl k)
                        show Gl _ _ _ _ (s₁.setTop (mkF m 186 #[.val (.int u)] [(.int u)]))
                        refine Gl.go ?_ (X0.ldcInt hx hown (mvT hZ (hw _ (List.mem_of_getElem? (i := 6) rfl))) (g := (mkF m 186 #[.val (.int u)] [(.int u)])) rfl (hb hby d2_186))
                        show Gl _ _ _ _ (s₁.setTop (mkF m 188 #[.val (.int u)] [(.int (65536 : Int32)), (.int u)]))
                        refine Gl.go ?_ (fun t k => XS.icmpYes X0.here hx rfl (pc0 := 188) (pc' := 201) rfl (hb hby d2_188) rfl (tlt (iv_lt' (k := 65536) rfl (by have q0 := iv_ne (k := 58) rfl hc1; have q1 := iv_nlt (k := 65) rfl hc2; have q2 := iv_gt (k := 90) rfl hc3; have q3 := iv_ne (k := 95) rfl hc4; have q4 := iv_nlt (k := 97) rfl hc5; have q5 := iv_gt (k := 122) rfl hc6; have q6 := iv_nlt (k := 192) rfl hc7; have q7 := iv_gt (k := 214) rfl hc8; have q8 := iv_nlt (k := 216) rfl hc9; have q9 := iv_gt (k := 246) rfl hc10; have q10 := iv_lt (k := 248) rfl hc11; omega) : u < (65536 : Int32))).1 (by decide) (by decide) k)
                        show Gl _ _ _ _ (s₁.setTop (mkF m 201 #[.val (.int u)] []))
                        refine Gl.go ?_ (fun t k => XS.iconst X0.here hx rfl (hb hby d2_201) k)
                        show Gl _ _ _ _ (s₁.setTop (mkF m 202 #[.val (.int u)] [(.int (0 : Int32))]))
                        obtain ⟨fs, hr, hrun, hended, hW, hsame⟩ := X0.leave (v := some (.int (0 : Int32))) (fun h => by rw [Bd.returns] at h; cases h) (BodyLoose.notSynchronized Bd)
                        exact Gl.mk ⟨_, _, retN X0 hx (t := .boolean) Bd.returns (by simp) (hb hby d2_202) hr, hrun, hended, _, _, rfl, ⟨congrArg (fun z => some (Value.int z)) ((if_neg hc1).trans ((if_neg hc2).trans ((if_pos hc3).trans ((if_neg hc4).trans ((if_neg hc5).trans ((if_pos hc6).trans ((if_neg hc7).trans ((if_pos hc8).trans ((if_neg hc9).trans ((if_pos hc10).trans ((if_pos hc11).trans (rfl)))))))))))).symm, rfl, e0⟩, ⟨_, rfl⟩, hW, hsame.mono (by decide) (by decide)⟩
                      · refine Gl.go ?_ (fun t k => XS.icmpNo X0.here hx rfl (hb hby d2_68) rfl (flt hc11).1 k)
                        show Gl _ _ _ _ (s₁.setTop (mkF m 71 #[.val (.int u)] []))
                        refine Gl.go ?_ (fun t k => XS.iloadN X0.here hx rfl (hb hby d2_71) rfl k)
                        show Gl _ _ _ _ (s₁.setTop (mkF m 72 #[.val (.int u)] [(.int u)]))
                        refine Gl.go ?_ (fun t k => XS.sipush X0.here hx rfl (hb hby d2_72) k)
                        show Gl _ _ _ _ (s₁.setTop (mkF m 75 #[.val (.int u)] [(.int (767 : Int32)), (.int u)]))
                        by_cases hc12 : (767 : Int32) < u
                        · refine Gl.go ?_ (fun t k => XS.icmpNo X0.here hx rfl (hb hby d2_75) rfl (tlt hc12).2.2.2 k)
                          show Gl _ _ _ _ (s₁.setTop (mkF m 78 #[.val (.int u)] []))
                          refine Gl.go ?_ (fun t k => XS.iloadN X0.here hx rfl (hb hby d2_78) rfl k)
                          show Gl _ _ _ _ (s₁.setTop (mkF m 79 #[.val (.int u)] [(.int u)]))
                          refine Gl.go ?_ (fun t k => XS.sipush X0.here hx rfl (hb hby d2_79) k)
                          show Gl _ _ _ _ (s₁.setTop (mkF m 82 #[.val (.int u)] [(.int (880 : Int32)), (.int u)]))
                          by_cases hc13 : u < (880 : Int32)
                          · refine Gl.go ?_ (fun t k => XS.icmpYes X0.here hx rfl (pc0 := 82) (pc' := 92) rfl (hb hby d2_82) rfl (tlt hc13).1 (by decide) (by decide) k)
                            show Gl _ _ _ _ (s₁.setTop (mkF m 92 #[.val (.int u)] []))
                            refine Gl.go ?_ (fun t k => XS.iloadN X0.here hx rfl (hb hby d2_92) rfl k)
                            show Gl _ _ _ _ (s₁.setTop (mkF m 93 #[.val (.int u)] [(.int u)]))
                            refine Gl.go ?_ (fun t k => XS.sipush X0.here hx rfl (hb hby d2_93) k)
                            show Gl _ _ _ _ (s₁.setTop (mkF m 96 #[.val (.int u)] [(.int (895 : Int32)), (.int u)]))
                            refine Gl.go ?_ (fun t k => XS.icmpYes X0.here hx rfl (pc0 := 96) (pc' := 106) rfl (hb hby d2_96) rfl (tlt (iv_lt' (k := 895) rfl (by have q0 := iv_ne (k := 58) rfl hc1; have q1 := iv_nlt (k := 65) rfl hc2; have q2 := iv_gt (k := 90) rfl hc3; have q3 := iv_ne (k := 95) rfl hc4; have q4 := iv_nlt (k := 97) rfl hc5; have q5 := iv_gt (k := 122) rfl hc6; have q6 := iv_nlt (k := 192) rfl hc7; have q7 := iv_gt (k := 214) rfl hc8; have q8 := iv_nlt (k := 216) rfl hc9; have q9 := iv_gt (k := 246) rfl hc10; have q10 := iv_nlt (k := 248) rfl hc11; have q11 := iv_gt (k := 767) rfl hc12; have q12 := iv_lt (k := 880) rfl hc13; omega) : u < (895 : Int32))).1 (by decide) (by decide) k)
                            show Gl _ _ _ _ (s₁.setTop (mkF m 106 #[.val (.int u)] []))
                            refine Gl.go ?_ (fun t k => XS.iloadN X0.here hx rfl (hb hby d2_106) rfl k)
                            show Gl _ _ _ _ (s₁.setTop (mkF m 107 #[.val (.int u)] [(.int u)]))
                            refine Gl.go ?_ (fun t k => XS.sipush X0.here hx rfl (hb hby d2_107) k)
                            show Gl _ _ _ _ (s₁.setTop (mkF m 110 #[.val (.int u)] [(.int (8204 : Int32)), (.int u)]))
                            refine Gl.go ?_ (fun t k => XS.icmpYes X0.here hx rfl (pc0 := 110) (pc' := 120) rfl (hb hby d2_110) rfl (tlt (iv_lt' (k := 8204) rfl (by have q0 := iv_ne (k := 58) rfl hc1; have q1 := iv_nlt (k := 65) rfl hc2; have q2 := iv_gt (k := 90) rfl hc3; have q3 := iv_ne (k := 95) rfl hc4; have q4 := iv_nlt (k := 97) rfl hc5; have q5 := iv_gt (k := 122) rfl hc6; have q6 := iv_nlt (k := 192) rfl hc7; have q7 := iv_gt (k := 214) rfl hc8; have q8 := iv_nlt (k := 216) rfl hc9; have q9 := iv_gt (k := 246) rfl hc10; have q10 := iv_nlt (k := 248) rfl hc11; have q11 := iv_gt (k := 767) rfl hc12; have q12 := iv_lt (k := 880) rfl hc13; omega) : u < (8204 : Int32))).1 (by decide) (by decide) k)
                            show Gl _ _ _ _ (s₁.setTop (mkF m 120 #[.val (.int u)] []))
                            refine Gl.go ?_ (fun t k => XS.iloadN X0.here hx rfl (hb hby d2_120) rfl k)
                            show Gl _ _ _ _ (s₁.setTop (mkF m 121 #[.val (.int u)] [(.int u)]))
                            refine Gl.go ?_ (fun t k => XS.sipush X0.here hx rfl (hb hby d2_121) k)
                            show Gl _ _ _ _ (s₁.setTop (mkF m 124 #[.val (.int u)] [(.int (8304 : Int32)), (.int u)]))
                            refine Gl.go ?_ (fun t k => XS.icmpYes X0.here hx rfl (pc0 := 124) (pc' := 134) rfl (hb hby d2_124) rfl (tlt (iv_lt' (k := 8304) rfl (by have q0 := iv_ne (k := 58) rfl hc1; have q1 := iv_nlt (k := 65) rfl hc2; have q2 := iv_gt (k := 90) rfl hc3; have q3 := iv_ne (k := 95) rfl hc4; have q4 := iv_nlt (k := 97) rfl hc5; have q5 := iv_gt (k := 122) rfl hc6; have q6 := iv_nlt (k := 192) rfl hc7; have q7 := iv_gt (k := 214) rfl hc8; have q8 := iv_nlt (k := 216) rfl hc9; have q9 := iv_gt (k := 246) rfl hc10; have q10 := iv_nlt (k := 248) rfl hc11; have q11 := iv_gt (k := 767) rfl hc12; have q12 := iv_lt (k := 880) rfl hc13; omega) : u < (8304 : Int32))).1 (by decide) (by decide) k)
                            show Gl _ _ _ _ (s₁.setTop (mkF m 134 #[.val (.int u)] []))
                            refine Gl.go ?_ (fun t k => XS.iloadN X0.here hx rfl (hb hby d2_134) rfl k)
                            show Gl _ _ _ _ (s₁.setTop (mkF m 135 #[.val (.int u)] [(.int u)]))
                            refine Gl.go ?_ (fun t k => XS.sipush X0.here hx rfl (hb hby d2_135) k)
                            show Gl _ _ _ _ (s₁.setTop (mkF m 138 #[.val (.int u)] [(.int (11264 : Int32)), (.int u)]))
                            refine Gl.go ?_ (fun t k => XS.icmpYes X0.here hx rfl (pc0 := 138) (pc' := 148) rfl (hb hby d2_138) rfl (tlt (iv_lt' (k := 11264) rfl (by have q0 := iv_ne (k := 58) rfl hc1; have q1 := iv_nlt (k := 65) rfl hc2; have q2 := iv_gt (k := 90) rfl hc3; have q3 := iv_ne (k := 95) rfl hc4; have q4 := iv_nlt (k := 97) rfl hc5; have q5 := iv_gt (k := 122) rfl hc6; have q6 := iv_nlt (k := 192) rfl hc7; have q7 := iv_gt (k := 214) rfl hc8; have q8 := iv_nlt (k := 216) rfl hc9; have q9 := iv_gt (k := 246) rfl hc10; have q10 := iv_nlt (k := 248) rfl hc11; have q11 := iv_gt (k := 767) rfl hc12; have q12 := iv_lt (k := 880) rfl hc13; omega) : u < (11264 : Int32))).1 (by decide) (by decide) k)
                            show Gl _ _ _ _ (s₁.setTop (mkF m 148 #[.val (.int u)] []))
                            refine Gl.go ?_ (fun t k => XS.iloadN X0.here hx rfl (hb hby d2_148) rfl k)
                            show Gl _ _ _ _ (s₁.setTop (mkF m 149 #[.val (.int u)] [(.int u)]))
                            refine Gl.go ?_ (fun t k => XS.sipush X0.here hx rfl (hb hby d2_149) k)
                            show Gl _ _ _ _ (s₁.setTop (mkF m 152 #[.val (.int u)] [(.int (12289 : Int32)), (.int u)]))
                            refine Gl.go ?_ (fun t k => XS.icmpYes X0.here hx rfl (pc0 := 152) (pc' := 161) rfl (hb hby d2_152) rfl (tlt (iv_lt' (k := 12289) rfl (by have q0 := iv_ne (k := 58) rfl hc1; have q1 := iv_nlt (k := 65) rfl hc2; have q2 := iv_gt (k := 90) rfl hc3; have q3 := iv_ne (k := 95) rfl hc4; have q4 := iv_nlt (k := 97) rfl hc5; have q5 := iv_gt (k := 122) rfl hc6; have q6 := iv_nlt (k := 192) rfl hc7; have q7 := iv_gt (k := 214) rfl hc8; have q8 := iv_nlt (k := 216) rfl hc9; have q9 := iv_gt (k := 246) rfl hc10; have q10 := iv_nlt (k := 248) rfl hc11; have q11 := iv_gt (k := 767) rfl hc12; have q12 := iv_lt (k := 880) rfl hc13; omega) : u < (12289 : Int32))).1 (by decide) (by decide) k)
                            show Gl _ _ _ _ (s₁.setTop (mkF m 161 #[.val (.int u)] []))
                            refine Gl.go ?_ (fun t k => XS.iloadN X0.here hx rfl (hb hby d2_161) rfl k)
                            show Gl _ _ _ _ (s₁.setTop (mkF m 162 #[.val (.int u)] [(.int u)]))
                            refine Gl.go ?_ (X0.ldcInt hx hown (mvT hZ (hw _ (List.mem_of_getElem? (i := 2) rfl))) (g := (mkF m 162 #[.val (.int u)] [(.int u)])) rfl (hb hby d2_162))
                            show Gl _ _ _ _ (s₁.setTop (mkF m 164 #[.val (.int u)] [(.int (63744 : Int32)), (.int u)]))
                            refine Gl.go ?_ (fun t k => XS.icmpYes X0.here hx rfl (pc0 := 164) (pc' := 173) rfl (hb hby d2_164) rfl (tlt (iv_lt' (k := 63744) rfl (by have q0 := iv_ne (k := 58) rfl hc1; have q1 := iv_nlt (k := 65) rfl hc2; have q2 := iv_gt (k := 90) rfl hc3; have q3 := iv_ne (k := 95) rfl hc4; have q4 := iv_nlt (k := 97) rfl hc5; have q5 := iv_gt (k := 122) rfl hc6; have q6 := iv_nlt (k := 192) rfl hc7; have q7 := iv_gt (k := 214) rfl hc8; have q8 := iv_nlt (k := 216) rfl hc9; have q9 := iv_gt (k := 246) rfl hc10; have q10 := iv_nlt (k := 248) rfl hc11; have q11 := iv_gt (k := 767) rfl hc12; have q12 := iv_lt (k := 880) rfl hc13; omega) : u < (63744 : Int32))).1 (by decide) (by decide) k)
                            show Gl _ _ _ _ (s₁.setTop (mkF m 173 #[.val (.int u)] []))
                            refine Gl.go ?_ (fun t k => XS.iloadN X0.here hx rfl (hb hby d2_173) rfl k)
                            show Gl _ _ _ _ (s₁.setTop (mkF m 174 #[.val (.int u)] [(.int u)]))
                            refine Gl.go ?_ (X0.ldcInt hx hown (mvT hZ (hw _ (List.mem_of_getElem? (i := 4) rfl))) (g := (mkF m 174 #[.val (.int u)] [(.int u)])) rfl (hb hby d2_174))
                            show Gl _ _ _ _ (s₁.setTop (mkF m 176 #[.val (.int u)] [(.int (65008 : Int32)), (.int u)]))
                            refine Gl.go ?_ (fun t k => XS.icmpYes X0.here hx rfl (pc0 := 176) (pc' := 185) rfl (hb hby d2_176) rfl (tlt (iv_lt' (k := 65008) rfl (by have q0 := iv_ne (k := 58) rfl hc1; have q1 := iv_nlt (k := 65) rfl hc2; have q2 := iv_gt (k := 90) rfl hc3; have q3 := iv_ne (k := 95) rfl hc4; have q4 := iv_nlt (k := 97) rfl hc5; have q5 := iv_gt (k := 122) rfl hc6; have q6 := iv_nlt (k := 192) rfl hc7; have q7 := iv_gt (k := 214) rfl hc8; have q8 := iv_nlt (k := 216) rfl hc9; have q9 := iv_gt (k := 246) rfl hc10; have q10 := iv_nlt (k := 248) rfl hc11; have q11 := iv_gt (k := 767) rfl hc12; have q12 := iv_lt (k := 880) rfl hc13; omega) : u < (65008 : Int32))).1 (by decide) (by decide) k)
                            show Gl _ _ _ _ (s₁.setTop (mkF m 185 #[.val (.int u)] []))
                            refine Gl.go ?_ (fun t k => XS.iloadN X0.here hx rfl (hb hby d2_185) rfl k)
                            show Gl _ _ _ _ (s₁.setTop (mkF m 186 #[.val (.int u)] [(.int u)]))
                            refine Gl.go ?_ (X0.ldcInt hx hown (mvT hZ (hw _ (List.mem_of_getElem? (i := 6) rfl))) (g := (mkF m 186 #[.val (.int u)] [(.int u)])) rfl (hb hby d2_186))
                            show Gl _ _ _ _ (s₁.setTop (mkF m 188 #[.val (.int u)] [(.int (65536 : Int32)), (.int u)]))
                            refine Gl.go ?_ (fun t k => XS.icmpYes X0.here hx rfl (pc0 := 188) (pc' := 201) rfl (hb hby d2_188) rfl (tlt (iv_lt' (k := 65536) rfl (by have q0 := iv_ne (k := 58) rfl hc1; have q1 := iv_nlt (k := 65) rfl hc2; have q2 := iv_gt (k := 90) rfl hc3; have q3 := iv_ne (k := 95) rfl hc4; have q4 := iv_nlt (k := 97) rfl hc5; have q5 := iv_gt (k := 122) rfl hc6; have q6 := iv_nlt (k := 192) rfl hc7; have q7 := iv_gt (k := 214) rfl hc8; have q8 := iv_nlt (k := 216) rfl hc9; have q9 := iv_gt (k := 246) rfl hc10; have q10 := iv_nlt (k := 248) rfl hc11; have q11 := iv_gt (k := 767) rfl hc12; have q12 := iv_lt (k := 880) rfl hc13; omega) : u < (65536 : Int32))).1 (by decide) (by decide) k)
                            show Gl _ _ _ _ (s₁.setTop (mkF m 201 #[.val (.int u)] []))
                            refine Gl.go ?_ (fun t k => XS.iconst X0.here hx rfl (hb hby d2_201) k)
                            show Gl _ _ _ _ (s₁.setTop (mkF m 202 #[.val (.int u)] [(.int (0 : Int32))]))
                            obtain ⟨fs, hr, hrun, hended, hW, hsame⟩ := X0.leave (v := some (.int (0 : Int32))) (fun h => by rw [Bd.returns] at h; cases h) (BodyLoose.notSynchronized Bd)
                            exact Gl.mk ⟨_, _, retN X0 hx (t := .boolean) Bd.returns (by simp) (hb hby d2_202) hr, hrun, hended, _, _, rfl, ⟨congrArg (fun z => some (Value.int z)) ((if_neg hc1).trans ((if_neg hc2).trans ((if_pos hc3).trans ((if_neg hc4).trans ((if_neg hc5).trans ((if_pos hc6).trans ((if_neg hc7).trans ((if_pos hc8).trans ((if_neg hc9).trans ((if_pos hc10).trans ((if_neg hc11).trans ((if_pos hc12).trans ((if_pos hc13).trans (rfl)))))))))))))).symm, rfl, e0⟩, ⟨_, rfl⟩, hW, hsame.mono (by decide) (by decide)⟩
                          · refine Gl.go ?_ (fun t k => XS.icmpNo X0.here hx rfl (hb hby d2_82) rfl (flt hc13).1 k)
                            show Gl _ _ _ _ (s₁.setTop (mkF m 85 #[.val (.int u)] []))
                            refine Gl.go ?_ (fun t k => XS.iloadN X0.here hx rfl (hb hby d2_85) rfl k)
                            show Gl _ _ _ _ (s₁.setTop (mkF m 86 #[.val (.int u)] [(.int u)]))
                            refine Gl.go ?_ (fun t k => XS.sipush X0.here hx rfl (hb hby d2_86) k)
                            show Gl _ _ _ _ (s₁.setTop (mkF m 89 #[.val (.int u)] [(.int (893 : Int32)), (.int u)]))
                            by_cases hc14 : (893 : Int32) < u
                            · refine Gl.go ?_ (fun t k => XS.icmpNo X0.here hx rfl (hb hby d2_89) rfl (tlt hc14).2.2.2 k)
                              show Gl _ _ _ _ (s₁.setTop (mkF m 92 #[.val (.int u)] []))
                              refine Gl.go ?_ (fun t k => XS.iloadN X0.here hx rfl (hb hby d2_92) rfl k)
                              show Gl _ _ _ _ (s₁.setTop (mkF m 93 #[.val (.int u)] [(.int u)]))
                              refine Gl.go ?_ (fun t k => XS.sipush X0.here hx rfl (hb hby d2_93) k)
                              show Gl _ _ _ _ (s₁.setTop (mkF m 96 #[.val (.int u)] [(.int (895 : Int32)), (.int u)]))
                              by_cases hc15 : u < (895 : Int32)
                              · refine Gl.go ?_ (fun t k => XS.icmpYes X0.here hx rfl (pc0 := 96) (pc' := 106) rfl (hb hby d2_96) rfl (tlt hc15).1 (by decide) (by decide) k)
                                show Gl _ _ _ _ (s₁.setTop (mkF m 106 #[.val (.int u)] []))
                                refine Gl.go ?_ (fun t k => XS.iloadN X0.here hx rfl (hb hby d2_106) rfl k)
                                show Gl _ _ _ _ (s₁.setTop (mkF m 107 #[.val (.int u)] [(.int u)]))
                                refine Gl.go ?_ (fun t k => XS.sipush X0.here hx rfl (hb hby d2_107) k)
                                show Gl _ _ _ _ (s₁.setTop (mkF m 110 #[.val (.int u)] [(.int (8204 : Int32)), (.int u)]))
                                refine Gl.go ?_ (fun t k => XS.icmpYes X0.here hx rfl (pc0 := 110) (pc' := 120) rfl (hb hby d2_110) rfl (tlt (iv_lt' (k := 8204) rfl (by have q0 := iv_ne (k := 58) rfl hc1; have q1 := iv_nlt (k := 65) rfl hc2; have q2 := iv_gt (k := 90) rfl hc3; have q3 := iv_ne (k := 95) rfl hc4; have q4 := iv_nlt (k := 97) rfl hc5; have q5 := iv_gt (k := 122) rfl hc6; have q6 := iv_nlt (k := 192) rfl hc7; have q7 := iv_gt (k := 214) rfl hc8; have q8 := iv_nlt (k := 216) rfl hc9; have q9 := iv_gt (k := 246) rfl hc10; have q10 := iv_nlt (k := 248) rfl hc11; have q11 := iv_gt (k := 767) rfl hc12; have q12 := iv_nlt (k := 880) rfl hc13; have q13 := iv_gt (k := 893) rfl hc14; have q14 := iv_lt (k := 895) rfl hc15; omega) : u < (8204 : Int32))).1 (by decide) (by decide) k)
                                show Gl _ _ _ _ (s₁.setTop (mkF m 120 #[.val (.int u)] []))
                                refine Gl.go ?_ (fun t k => XS.iloadN X0.here hx rfl (hb hby d2_120) rfl k)
                                show Gl _ _ _ _ (s₁.setTop (mkF m 121 #[.val (.int u)] [(.int u)]))
                                refine Gl.go ?_ (fun t k => XS.sipush X0.here hx rfl (hb hby d2_121) k)
                                show Gl _ _ _ _ (s₁.setTop (mkF m 124 #[.val (.int u)] [(.int (8304 : Int32)), (.int u)]))
                                refine Gl.go ?_ (fun t k => XS.icmpYes X0.here hx rfl (pc0 := 124) (pc' := 134) rfl (hb hby d2_124) rfl (tlt (iv_lt' (k := 8304) rfl (by have q0 := iv_ne (k := 58) rfl hc1; have q1 := iv_nlt (k := 65) rfl hc2; have q2 := iv_gt (k := 90) rfl hc3; have q3 := iv_ne (k := 95) rfl hc4; have q4 := iv_nlt (k := 97) rfl hc5; have q5 := iv_gt (k := 122) rfl hc6; have q6 := iv_nlt (k := 192) rfl hc7; have q7 := iv_gt (k := 214) rfl hc8; have q8 := iv_nlt (k := 216) rfl hc9; have q9 := iv_gt (k := 246) rfl hc10; have q10 := iv_nlt (k := 248) rfl hc11; have q11 := iv_gt (k := 767) rfl hc12; have q12 := iv_nlt (k := 880) rfl hc13; have q13 := iv_gt (k := 893) rfl hc14; have q14 := iv_lt (k := 895) rfl hc15; omega) : u < (8304 : Int32))).1 (by decide) (by decide) k)
                                show Gl _ _ _ _ (s₁.setTop (mkF m 134 #[.val (.int u)] []))
                                refine Gl.go ?_ (fun t k => XS.iloadN X0.here hx rfl (hb hby d2_134) rfl k)
                                show Gl _ _ _ _ (s₁.setTop (mkF m 135 #[.val (.int u)] [(.int u)]))
                                refine Gl.go ?_ (fun t k => XS.sipush X0.here hx rfl (hb hby d2_135) k)
                                show Gl _ _ _ _ (s₁.setTop (mkF m 138 #[.val (.int u)] [(.int (11264 : Int32)), (.int u)]))
                                refine Gl.go ?_ (fun t k => XS.icmpYes X0.here hx rfl (pc0 := 138) (pc' := 148) rfl (hb hby d2_138) rfl (tlt (iv_lt' (k := 11264) rfl (by have q0 := iv_ne (k := 58) rfl hc1; have q1 := iv_nlt (k := 65) rfl hc2; have q2 := iv_gt (k := 90) rfl hc3; have q3 := iv_ne (k := 95) rfl hc4; have q4 := iv_nlt (k := 97) rfl hc5; have q5 := iv_gt (k := 122) rfl hc6; have q6 := iv_nlt (k := 192) rfl hc7; have q7 := iv_gt (k := 214) rfl hc8; have q8 := iv_nlt (k := 216) rfl hc9; have q9 := iv_gt (k := 246) rfl hc10; have q10 := iv_nlt (k := 248) rfl hc11; have q11 := iv_gt (k := 767) rfl hc12; have q12 := iv_nlt (k := 880) rfl hc13; have q13 := iv_gt (k := 893) rfl hc14; have q14 := iv_lt (k := 895) rfl hc15; omega) : u < (11264 : Int32))).1 (by decide) (by decide) k)
                                show Gl _ _ _ _ (s₁.setTop (mkF m 148 #[.val (.int u)] []))
                                refine Gl.go ?_ (fun t k => XS.iloadN X0.here hx rfl (hb hby d2_148) rfl k)
                                show Gl _ _ _ _ (s₁.setTop (mkF m 149 #[.val (.int u)] [(.int u)]))
                                refine Gl.go ?_ (fun t k => XS.sipush X0.here hx rfl (hb hby d2_149) k)
                                show Gl _ _ _ _ (s₁.setTop (mkF m 152 #[.val (.int u)] [(.int (12289 : Int32)), (.int u)]))
                                refine Gl.go ?_ (fun t k => XS.icmpYes X0.here hx rfl (pc0 := 152) (pc' := 161) rfl (hb hby d2_152) rfl (tlt (iv_lt' (k := 12289) rfl (by have q0 := iv_ne (k := 58) rfl hc1; have q1 := iv_nlt (k := 65) rfl hc2; have q2 := iv_gt (k := 90) rfl hc3; have q3 := iv_ne (k := 95) rfl hc4; have q4 := iv_nlt (k := 97) rfl hc5; have q5 := iv_gt (k := 122) rfl hc6; have q6 := iv_nlt (k := 192) rfl hc7; have q7 := iv_gt (k := 214) rfl hc8; have q8 := iv_nlt (k := 216) rfl hc9; have q9 := iv_gt (k := 246) rfl hc10; have q10 := iv_nlt (k := 248) rfl hc11; have q11 := iv_gt (k := 767) rfl hc12; have q12 := iv_nlt (k := 880) rfl hc13; have q13 := iv_gt (k := 893) rfl hc14; have q14 := iv_lt (k := 895) rfl hc15; omega) : u < (12289 : Int32))).1 (by decide) (by decide) k)
                                show Gl _ _ _ _ (s₁.setTop (mkF m 161 #[.val (.int u)] []))
                                refine Gl.go ?_ (fun t k => XS.iloadN X0.here hx rfl (hb hby d2_161) rfl k)
                                show Gl _ _ _ _ (s₁.setTop (mkF m 162 #[.val (.int u)] [(.int u)]))
                                refine Gl.go ?_ (X0.ldcInt hx hown (mvT hZ (hw _ (List.mem_of_getElem? (i := 2) rfl))) (g := (mkF m 162 #[.val (.int u)] [(.int u)])) rfl (hb hby d2_162))
                                show Gl _ _ _ _ (s₁.setTop (mkF m 164 #[.val (.int u)] [(.int (63744 : Int32)), (.int u)]))
                                refine Gl.go ?_ (fun t k => XS.icmpYes X0.here hx rfl (pc0 := 164) (pc' := 173) rfl (hb hby d2_164) rfl (tlt (iv_lt' (k := 63744) rfl (by have q0 := iv_ne (k := 58) rfl hc1; have q1 := iv_nlt (k := 65) rfl hc2; have q2 := iv_gt (k := 90) rfl hc3; have q3 := iv_ne (k := 95) rfl hc4; have q4 := iv_nlt (k := 97) rfl hc5; have q5 := iv_gt (k := 122) rfl hc6; have q6 := iv_nlt (k := 192) rfl hc7; have q7 := iv_gt (k := 214) rfl hc8; have q8 := iv_nlt (k := 216) rfl hc9; have q9 := iv_gt (k := 246) rfl hc10; have q10 := iv_nlt (k := 248) rfl hc11; have q11 := iv_gt (k := 767) rfl hc12; have q12 := iv_nlt (k := 880) rfl hc13; have q13 := iv_gt (k := 893) rfl hc14; have q14 := iv_lt (k := 895) rfl hc15; omega) : u < (63744 : Int32))).1 (by decide) (by decide) k)
                                show Gl _ _ _ _ (s₁.setTop (mkF m 173 #[.val (.int u)] []))
                                refine Gl.go ?_ (fun t k => XS.iloadN X0.here hx rfl (hb hby d2_173) rfl k)
                                show Gl _ _ _ _ (s₁.setTop (mkF m 174 #[.val (.int u)] [(.int u)]))
                                refine Gl.go ?_ (X0.ldcInt hx hown (mvT hZ (hw _ (List.mem_of_getElem? (i := 4) rfl))) (g := (mkF m 174 #[.val (.int u)] [(.int u)])) rfl (hb hby d2_174))
                                show Gl _ _ _ _ (s₁.setTop (mkF m 176 #[.val (.int u)] [(.int (65008 : Int32)), (.int u)]))
                                refine Gl.go ?_ (fun t k => XS.icmpYes X0.here hx rfl (pc0 := 176) (pc' := 185) rfl (hb hby d2_176) rfl (tlt (iv_lt' (k := 65008) rfl (by have q0 := iv_ne (k := 58) rfl hc1; have q1 := iv_nlt (k := 65) rfl hc2; have q2 := iv_gt (k := 90) rfl hc3; have q3 := iv_ne (k := 95) rfl hc4; have q4 := iv_nlt (k := 97) rfl hc5; have q5 := iv_gt (k := 122) rfl hc6; have q6 := iv_nlt (k := 192) rfl hc7; have q7 := iv_gt (k := 214) rfl hc8; have q8 := iv_nlt (k := 216) rfl hc9; have q9 := iv_gt (k := 246) rfl hc10; have q10 := iv_nlt (k := 248) rfl hc11; have q11 := iv_gt (k := 767) rfl hc12; have q12 := iv_nlt (k := 880) rfl hc13; have q13 := iv_gt (k := 893) rfl hc14; have q14 := iv_lt (k := 895) rfl hc15; omega) : u < (65008 : Int32))).1 (by decide) (by decide) k)
                                show Gl _ _ _ _ (s₁.setTop (mkF m 185 #[.val (.int u)] []))
                                refine Gl.go ?_ (fun t k => XS.iloadN X0.here hx rfl (hb hby d2_185) rfl k)
                                show Gl _ _ _ _ (s₁.setTop (mkF m 186 #[.val (.int u)] [(.int u)]))
                                refine Gl.go ?_ (X0.ldcInt hx hown (mvT hZ (hw _ (List.mem_of_getElem? (i := 6) rfl))) (g := (mkF m 186 #[.val (.int u)] [(.int u)])) rfl (hb hby d2_186))
                                show Gl _ _ _ _ (s₁.setTop (mkF m 188 #[.val (.int u)] [(.int (65536 : Int32)), (.int u)]))
                                refine Gl.go ?_ (fun t k => XS.icmpYes X0.here hx rfl (pc0 := 188) (pc' := 201) rfl (hb hby d2_188) rfl (tlt (iv_lt' (k := 65536) rfl (by have q0 := iv_ne (k := 58) rfl hc1; have q1 := iv_nlt (k := 65) rfl hc2; have q2 := iv_gt (k := 90) rfl hc3; have q3 := iv_ne (k := 95) rfl hc4; have q4 := iv_nlt (k := 97) rfl hc5; have q5 := iv_gt (k := 122) rfl hc6; have q6 := iv_nlt (k := 192) rfl hc7; have q7 := iv_gt (k := 214) rfl hc8; have q8 := iv_nlt (k := 216) rfl hc9; have q9 := iv_gt (k := 246) rfl hc10; have q10 := iv_nlt (k := 248) rfl hc11; have q11 := iv_gt (k := 767) rfl hc12; have q12 := iv_nlt (k := 880) rfl hc13; have q13 := iv_gt (k := 893) rfl hc14; have q14 := iv_lt (k := 895) rfl hc15; omega) : u < (65536 : Int32))).1 (by decide) (by decide) k)
                                show Gl _ _ _ _ (s₁.setTop (mkF m 201 #[.val (.int u)] []))
                                refine Gl.go ?_ (fun t k => XS.iconst X0.here hx rfl (hb hby d2_201) k)
                                show Gl _ _ _ _ (s₁.setTop (mkF m 202 #[.val (.int u)] [(.int (0 : Int32))]))
                                obtain ⟨fs, hr, hrun, hended, hW, hsame⟩ := X0.leave (v := some (.int (0 : Int32))) (fun h => by rw [Bd.returns] at h; cases h) (BodyLoose.notSynchronized Bd)
                                exact Gl.mk ⟨_, _, retN X0 hx (t := .boolean) Bd.returns (by simp) (hb hby d2_202) hr, hrun, hended, _, _, rfl, ⟨congrArg (fun z => some (Value.int z)) ((if_neg hc1).trans ((if_neg hc2).trans ((if_pos hc3).trans ((if_neg hc4).trans ((if_neg hc5).trans ((if_pos hc6).trans ((if_neg hc7).trans ((if_pos hc8).trans ((if_neg hc9).trans ((if_pos hc10).trans ((if_neg hc11).trans ((if_pos hc12).trans ((if_neg hc13).trans ((if_pos hc14).trans ((if_pos hc15).trans (rfl)))))))))))))))).symm, rfl, e0⟩, ⟨_, rfl⟩, hW, hsame.mono (by decide) (by decide)⟩
                              · refine Gl.go ?_ (fun t k => XS.icmpNo X0.here hx rfl (hb hby d2_96) rfl (flt hc15).1 k)
                                show Gl _ _ _ _ (s₁.setTop (mkF m 99 #[.val (.int u)] []))
                                refine Gl.go ?_ (fun t k => XS.iloadN X0.here hx rfl (hb hby d2_99) rfl k)
                                show Gl _ _ _ _ (s₁.setTop (mkF m 100 #[.val (.int u)] [(.int u)]))
                                refine Gl.go ?_ (fun t k => XS.sipush X0.here hx rfl (hb hby d2_100) k)
                                show Gl _ _ _ _ (s₁.setTop (mkF m 103 #[.val (.int u)] [(.int (8191 : Int32)), (.int u)]))
                                by_cases hc16 : (8191 : Int32) < u
                                · refine Gl.go ?_ (fun t k => XS.icmpNo X0.here hx rfl (hb hby d2_103) rfl (tlt hc16).2.2.2 k)
                                  show Gl _ _ _ _ (s₁.setTop (mkF m 106 #[.val (.int u)] []))
                                  refine Gl.go ?_ (fun t k => XS.iloadN X0.here hx rfl (hb hby d2_106) rfl k)
                                  show Gl _ _ _ _ (s₁.setTop (mkF m 107 #[.val (.int u)] [(.int u)]))
                                  refine Gl.go ?_ (fun t k => XS.sipush X0.here hx rfl (hb hby d2_107) k)
                                  show Gl _ _ _ _ (s₁.setTop (mkF m 110 #[.val (.int u)] [(.int (8204 : Int32)), (.int u)]))
                                  by_cases hc17 : u < (8204 : Int32)
                                  · refine Gl.go ?_ (fun t k => XS.icmpYes X0.here hx rfl (pc0 := 110) (pc' := 120) rfl (hb hby d2_110) rfl (tlt hc17).1 (by decide) (by decide) k)
                                    show Gl _ _ _ _ (s₁.setTop (mkF m 120 #[.val (.int u)] []))
                                    refine Gl.go ?_ (fun t k => XS.iloadN X0.here hx rfl (hb hby d2_120) rfl k)
                                    show Gl _ _ _ _ (s₁.setTop (mkF m 121 #[.val (.int u)] [(.int u)]))
                                    refine Gl.go ?_ (fun t k => XS.sipush X0.here hx rfl (hb hby d2_121) k)
                                    show Gl _ _ _ _ (s₁.setTop (mkF m 124 #[.val (.int u)] [(.int (8304 : Int32)), (.int u)]))
                                    refine Gl.go ?_ (fun t k => XS.icmpYes X0.here hx rfl (pc0 := 124) (pc' := 134) rfl (hb hby d2_124) rfl (tlt (iv_lt' (k := 8304) rfl (by have q0 := iv_ne (k := 58) rfl hc1; have q1 := iv_nlt (k := 65) rfl hc2; have q2 := iv_gt (k := 90) rfl hc3; have q3 := iv_ne (k := 95) rfl hc4; have q4 := iv_nlt (k := 97) rfl hc5; have q5 := iv_gt (k := 122) rfl hc6; have q6 := iv_nlt (k := 192) rfl hc7; have q7 := iv_gt (k := 214) rfl hc8; have q8 := iv_nlt (k := 216) rfl hc9; have q9 := iv_gt (k := 246) rfl hc10; have q10 := iv_nlt (k := 248) rfl hc11; have q11 := iv_gt (k := 767) rfl hc12; have q12 := iv_nlt (k := 880) rfl hc13; have q13 := iv_gt (k := 893) rfl hc14; have q14 := iv_nlt (k := 895) rfl hc15; have q15 := iv_gt (k := 8191) rfl hc16; have q16 := iv_lt (k := 8204) rfl hc17; omega) : u < (8304 : Int32))).1 (by decide) (by decide) k)
                                    show Gl _ _ _ _ (s₁.setTop (mkF m 134 #[.val (.int u)] []))
                                    refine Gl.go ?_ (fun t k => XS.iloadN X0.here hx rfl (hb hby d2_134) rfl k)
                                    show Gl _ _ _ _ (s₁.setTop (mkF m 135 #[.val (.int u)] [(.int u)]))
                                    refine Gl.go ?_ (fun t k => XS.sipush X0.here hx rfl (hb hby d2_135) k)
                                    show Gl _ _ _ _ (s₁.setTop (mkF m 138 #[.val (.int u)] [(.int (11264 : Int32)), (.int u)]))
                                    refine Gl.go ?_ (fun t k => XS.icmpYes X0.here hx rfl (pc0 := 138) (pc' := 148) rfl (hb hby d2_138) rfl (tlt (iv_lt' (k := 11264) rfl (by have q0 := iv_ne (k := 58) rfl hc1; have q1 := iv_nlt (k := 65) rfl hc2; have q2 := iv_gt (k := 90) rfl hc3; have q3 := iv_ne (k := 95) rfl hc4; have q4 := iv_nlt (k := 97) rfl hc5; have q5 := iv_gt (k := 122) rfl hc6; have q6 := iv_nlt (k := 192) rfl hc7; have q7 := iv_gt (k := 214) rfl hc8; have q8 := iv_nlt (k := 216) rfl hc9; have q9 := iv_gt (k := 246) rfl hc10; have q10 := iv_nlt (k := 248) rfl hc11; have q11 := iv_gt (k := 767) rfl hc12; have q12 := iv_nlt (k := 880) rfl hc13; have q13 := iv_gt (k := 893) rfl hc14; have q14 := iv_nlt (k := 895) rfl hc15; have q15 := iv_gt (k := 8191) rfl hc16; have q16 := iv_lt (k := 8204) rfl hc17; omega) : u < (11264 : Int32))).1 (by decide) (by decide) k)
                                    show Gl _ _ _ _ (s₁.setTop (mkF m 148 #[.val (.int u)] []))
                                    refine Gl.go ?_ (fun t k => XS.iloadN X0.here hx rfl (hb hby d2_148) rfl k)
                                    show Gl _ _ _ _ (s₁.setTop (mkF m 149 #[.val (.int u)] [(.int u)]))
                                    refine Gl.go ?_ (fun t k => XS.sipush X0.here hx rfl (hb hby d2_149) k)
                                    show Gl _ _ _ _ (s₁.setTop (mkF m 152 #[.val (.int u)] [(.int (12289 : Int32)), (.int u)]))
                                    refine Gl.go ?_ (fun t k => XS.icmpYes X0.here hx rfl (pc0 := 152) (pc' := 161) rfl (hb hby d2_152) rfl (tlt (iv_lt' (k := 12289) rfl (by have q0 := iv_ne (k := 58) rfl hc1; have q1 := iv_nlt (k := 65) rfl hc2; have q2 := iv_gt (k := 90) rfl hc3; have q3 := iv_ne (k := 95) rfl hc4; have q4 := iv_nlt (k := 97) rfl hc5; have q5 := iv_gt (k := 122) rfl hc6; have q6 := iv_nlt (k := 192) rfl hc7; have q7 := iv_gt (k := 214) rfl hc8; have q8 := iv_nlt (k := 216) rfl hc9; have q9 := iv_gt (k := 246) rfl hc10; have q10 := iv_nlt (k := 248) rfl hc11; have q11 := iv_gt (k := 767) rfl hc12; have q12 := iv_nlt (k := 880) rfl hc13; have q13 := iv_gt (k := 893) rfl hc14; have q14 := iv_nlt (k := 895) rfl hc15; have q15 := iv_gt (k := 8191) rfl hc16; have q16 := iv_lt (k := 8204) rfl hc17; omega) : u < (12289 : Int32))).1 (by decide) (by decide) k)
                                    show Gl _ _ _ _ (s₁.setTop (mkF m 161 #[.val (.int u)] []))
                                    refine Gl.go ?_ (fun t k => XS.iloadN X0.here hx rfl (hb hby d2_161) rfl k)
                                    show Gl _ _ _ _ (s₁.setTop (mkF m 162 #[.val (.int u)] [(.int u)]))
                                    refine Gl.go ?_ (X0.ldcInt hx hown (mvT hZ (hw _ (List.mem_of_getElem? (i := 2) rfl))) (g := (mkF m 162 #[.val (.int u)] [(.int u)])) rfl (hb hby d2_162))
                                    show Gl _ _ _ _ (s₁.setTop (mkF m 164 #[.val (.int u)] [(.int (63744 : Int32)), (.int u)]))
                                    refine Gl.go ?_ (fun t k => XS.icmpYes X0.here hx rfl (pc0 := 164) (pc' := 173) rfl (hb hby d2_164) rfl (tlt (iv_lt' (k := 63744) rfl (by have q0 := iv_ne (k := 58) rfl hc1; have q1 := iv_nlt (k := 65) rfl hc2; have q2 := iv_gt (k := 90) rfl hc3; have q3 := iv_ne (k := 95) rfl hc4; have q4 := iv_nlt (k := 97) rfl hc5; have q5 := iv_gt (k := 122) rfl hc6; have q6 := iv_nlt (k := 192) rfl hc7; have q7 := iv_gt (k := 214) rfl hc8; have q8 := iv_nlt (k := 216) rfl hc9; have q9 := iv_gt (k := 246) rfl hc10; have q10 := iv_nlt (k := 248) rfl hc11; have q11 := iv_gt (k := 767) rfl hc12; have q12 := iv_nlt (k := 880) rfl hc13; have q13 := iv_gt (k := 893) rfl hc14; have q14 := iv_nlt (k := 895) rfl hc15; have q15 := iv_gt (k := 8191) rfl hc16; have q16 := iv_lt (k := 8204) rfl hc17; omega) : u < (63744 : Int32))).1 (by decide) (by decide) k)
                                    show Gl _ _ _ _ (s₁.setTop (mkF m 173 #[.val (.int u)] []))
                                    refine Gl.go ?_ (fun t k => XS.iloadN X0.here hx rfl (hb hby d2_173) rfl k)
                                    show Gl _ _ _ _ (s₁.setTop (mkF m 174 #[.val (.int u)] [(.int u)]))
                                    refine Gl.go ?_ (X0.ldcInt hx hown (mvT hZ (hw _ (List.mem_of_getElem? (i := 4) rfl))) (g := (mkF m 174 #[.val (.int u)] [(.int u)])) rfl (hb hby d2_174))
                                    show Gl _ _ _ _ (s₁.setTop (mkF m 176 #[.val (.int u)] [(.int (65008 : Int32)), (.int u)]))
                                    refine Gl.go ?_ (fun t k => XS.icmpYes X0.here hx rfl (pc0 := 176) (pc' := 185) rfl (hb hby d2_176) rfl (tlt (iv_lt' (k := 65008) rfl (by have q0 := iv_ne (k := 58) rfl hc1; have q1 := iv_nlt (k := 65) rfl hc2; have q2 := iv_gt (k := 90) rfl hc3; have q3 := iv_ne (k := 95) rfl hc4; have q4 := iv_nlt (k := 97) rfl hc5; have q5 := iv_gt (k := 122) rfl hc6; have q6 := iv_nlt (k := 192) rfl hc7; have q7 := iv_gt (k := 214) rfl hc8; have q8 := iv_nlt (k := 216) rfl hc9; have q9 := iv_gt (k := 246) rfl hc10; have q10 := iv_nlt (k := 248) rfl hc11; have q11 := iv_gt (k := 767) rfl hc12; have q12 := iv_nlt (k := 880) rfl hc13; have q13 := iv_gt (k := 893) rfl hc14; have q14 := iv_nlt (k := 895) rfl hc15; have q15 := iv_gt (k := 8191) rfl hc16; have q16 := iv_lt (k := 8204) rfl hc17; omega) : u < (65008 : Int32))).1 (by decide) (by decide) k)
                                    show Gl _ _ _ _ (s₁.setTop (mkF m 185 #[.val (.int u)] []))
                                    refine Gl.go ?_ (fun t k => XS.iloadN X0.here hx rfl (hb hby d2_185) rfl k)
                                    show Gl _ _ _ _ (s₁.setTop (mkF m 186 #[.val (.int u)] [(.int u)]))
                                    refine Gl.go ?_ (X0.ldcInt hx hown (mvT hZ (hw _ (List.mem_of_getElem? (i := 6) rfl))) (g := (mkF m 186 #[.val (.int u)] [(.int u)])) rfl (hb hby d2_186))
                                    show Gl _ _ _ _ (s₁.setTop (mkF m 188 #[.val (.int u)] [(.int (65536 : Int32)), (.int u)]))
                                    refine Gl.go ?_ (fun t k => XS.icmpYes X0.here hx rfl (pc0 := 188) (pc' := 201) rfl (hb hby d2_188) rfl (tlt (iv_lt' (k := 65536) rfl (by have q0 := iv_ne (k := 58) rfl hc1; have q1 := iv_nlt (k := 65) rfl hc2; have q2 := iv_gt (k := 90) rfl hc3; have q3 := iv_ne (k := 95) rfl hc4; have q4 := iv_nlt (k := 97) rfl hc5; have q5 := iv_gt (k := 122) rfl hc6; have q6 := iv_nlt (k := 192) rfl hc7; have q7 := iv_gt (k := 214) rfl hc8; have q8 := iv_nlt (k := 216) rfl hc9; have q9 := iv_gt (k := 246) rfl hc10; have q10 := iv_nlt (k := 248) rfl hc11; have q11 := iv_gt (k := 767) rfl hc12; have q12 := iv_nlt (k := 880) rfl hc13; have q13 := iv_gt (k := 893) rfl hc14; have q14 := iv_nlt (k := 895) rfl hc15; have q15 := iv_gt (k := 8191) rfl hc16; have q16 := iv_lt (k := 8204) rfl hc17; omega) : u < (65536 : Int32))).1 (by decide) (by decide) k)
                                    show Gl _ _ _ _ (s₁.setTop (mkF m 201 #[.val (.int u)] []))
                                    refine Gl.go ?_ (fun t k => XS.iconst X0.here hx rfl (hb hby d2_201) k)
                                    show Gl _ _ _ _ (s₁.setTop (mkF m 202 #[.val (.int u)] [(.int (0 : Int32))]))
                                    obtain ⟨fs, hr, hrun, hended, hW, hsame⟩ := X0.leave (v := some (.int (0 : Int32))) (fun h => by rw [Bd.returns] at h; cases h) (BodyLoose.notSynchronized Bd)
                                    exact Gl.mk ⟨_, _, retN X0 hx (t := .boolean) Bd.returns (by simp) (hb hby d2_202) hr, hrun, hended, _, _, rfl, ⟨congrArg (fun z => some (Value.int z)) ((if_neg hc1).trans ((if_neg hc2).trans ((if_pos hc3).trans ((if_neg hc4).trans ((if_neg hc5).trans ((if_pos hc6).trans ((if_neg hc7).trans ((if_pos hc8).trans ((if_neg hc9).trans ((if_pos hc10).trans ((if_neg hc11).trans ((if_pos hc12).trans ((if_neg hc13).trans ((if_pos hc14).trans ((if_neg hc15).trans ((if_pos hc16).trans ((if_pos hc17).trans (rfl)))))))))))))))))).symm, rfl, e0⟩, ⟨_, rfl⟩, hW, hsame.mono (by decide) (by decide)⟩
                                  · refine Gl.go ?_ (fun t k => XS.icmpNo X0.here hx rfl (hb hby d2_110) rfl (flt hc17).1 k)
                                    show Gl _ _ _ _ (s₁.setTop (mkF m 113 #[.val (.int u)] []))
                                    refine Gl.go ?_ (fun t k => XS.iloadN X0.here hx rfl (hb hby d2_113) rfl k)
                                    show Gl _ _ _ _ (s₁.setTop (mkF m 114 #[.val (.int u)] [(.int u)]))
                                    refine Gl.go ?_ (fun t k => XS.sipush X0.here hx rfl (hb hby d2_114) k)
                                    show Gl _ _ _ _ (s₁.setTop (mkF m 117 #[.val (.int u)] [(.int (8205 : Int32)), (.int u)]))
                                    by_cases hc18 : (8205 : Int32) < u
                                    · refine Gl.go ?_ (fun t k => XS.icmpNo X0.here hx rfl (hb hby d2_117) rfl (tlt hc18).2.2.2 k)
                                      show Gl _ _ _ _ (s₁.setTop (mkF m 120 #[.val (.int u)] []))
                                      refine Gl.go ?_ (fun t k => XS.iloadN X0.here hx rfl (hb hby d2_120) rfl k)
                                      show Gl _ _ _ _ (s₁.setTop (mkF m 121 #[.val (.int u)] [(.int u)]))
                                      refine Gl.go ?_ (fun t k => XS.sipush X0.here hx rfl (hb hby d2_121) k)
                                      show Gl _ _ _ _ (s₁.setTop (mkF m 124 #[.val (.int u)] [(.int (8304 : Int32)), (.int u)]))
                                      by_cases hc19 : u < (8304 : Int32)
                                      · refine Gl.go ?_ (fun t k => XS.icmpYes X0.here hx rfl (pc0 := 124) (pc' := 134) rfl (hb hby d2_124) rfl (tlt hc19).1 (by decide) (by decide) k)
                                        show Gl _ _ _ _ (s₁.setTop (mkF m 134 #[.val (.int u)] []))
                                        refine Gl.go ?_ (fun t k => XS.iloadN X0.here hx rfl (hb hby d2_134) rfl k)
                                        show Gl _ _ _ _ (s₁.setTop (mkF m 135 #[.val (.int u)] [(.int u)]))
                                        refine Gl.go ?_ (fun t k => XS.sipush X0.here hx rfl (hb hby d2_135) k)
                                        show Gl _ _ _ _ (s₁.setTop (mkF m 138 #[.val (.int u)] [(.int (11264 : Int32)), (.int u)]))
                                        refine Gl.go ?_ (fun t k => XS.icmpYes X0.here hx rfl (pc0 := 138) (pc' := 148) rfl (hb hby d2_138) rfl (tlt (iv_lt' (k := 11264) rfl (by have q0 := iv_ne (k := 58) rfl hc1; have q1 := iv_nlt (k := 65) rfl hc2; have q2 := iv_gt (k := 90) rfl hc3; have q3 := iv_ne (k := 95) rfl hc4; have q4 := iv_nlt (k := 97) rfl hc5; have q5 := iv_gt (k := 122) rfl hc6; have q6 := iv_nlt (k := 192) rfl hc7; have q7 := iv_gt (k := 214) rfl hc8; have q8 := iv_nlt (k := 216) rfl hc9; have q9 := iv_gt (k := 246) rfl hc10; have q10 := iv_nlt (k := 248) rfl hc11; have q11 := iv_gt (k := 767) rfl hc12; have q12 := iv_nlt (k := 880) rfl hc13; have q13 := iv_gt (k := 893) rfl hc14; have q14 := iv_nlt (k := 895) rfl hc15; have q15 := iv_gt (k := 8191) rfl hc16; have q16 := iv_nlt (k := 8204) rfl hc17; have q17 := iv_gt (k := 8205) rfl hc18; have q18 := iv_lt (k := 8304) rfl hc19; omega) : u < (11264 : Int32))).1 (by decide) (by decide) k)
                                        show Gl _ _ _ _ (s₁.setTop (mkF m 148 #[.val (.int u)] []))
                                        refine Gl.go ?_ (fun t k => XS.iloadN X0.here hx rfl (hb hby d2_148) rfl k)
                                        show Gl _ _ _ _ (s₁.setTop (mkF m 149 #[.val (.int u)] [(.int u)]))
                                        refine Gl.go ?_ (fun t k => XS.sipush X0.here hx rfl (hb hby d2_149) k)
                                        show Gl _ _ _ _ (s₁.setTop (mkF m 152 #[.val (.int u)] [(.int (12289 : Int32)), (.int u)]))
                                        refine Gl.go ?_ (fun t k => XS.icmpYes X0.here hx rfl (pc0 := 152) (pc' := 161) rfl (hb hby d2_152) rfl (tlt (iv_lt' (k := 12289) rfl (by have q0 := iv_ne (k := 58) rfl hc1; have q1 := iv_nlt (k := 65) rfl hc2; have q2 := iv_gt (k := 90) rfl hc3; have q3 := iv_ne (k := 95) rfl hc4; have q4 := iv_nlt (k := 97) rfl hc5; have q5 := iv_gt (k := 122) rfl hc6; have q6 := iv_nlt (k := 192) rfl hc7; have q7 := iv_gt (k := 214) rfl hc8; have q8 := iv_nlt (k := 216) rfl hc9; have q9 := iv_gt (k := 246) rfl hc10; have q10 := iv_nlt (k := 248) rfl hc11; have q11 := iv_gt (k := 767) rfl hc12; have q12 := iv_nlt (k := 880) rfl hc13; have q13 := iv_gt (k := 893) rfl hc14; have q14 := iv_nlt (k := 895) rfl hc15; have q15 := iv_gt (k := 8191) rfl hc16; have q16 := iv_nlt (k := 8204) rfl hc17; have q17 := iv_gt (k := 8205) rfl hc18; have q18 := iv_lt (k := 8304) rfl hc19; omega) : u < (12289 : Int32))).1 (by decide) (by decide) k)
                                        show Gl _ _ _ _ (s₁.setTop (mkF m 161 #[.val (.int u)] []))
                                        refine Gl.go ?_ (fun t k => XS.iloadN X0.here hx rfl (hb hby d2_161) rfl k)
                                        show Gl _ _ _ _ (s₁.setTop (mkF m 162 #[.val (.int u)] [(.int u)]))
                                        refine Gl.go ?_ (X0.ldcInt hx hown (mvT hZ (hw _ (List.mem_of_getElem? (i := 2) rfl))) (g := (mkF m 162 #[.val (.int u)] [(.int u)])) rfl (hb hby d2_162))
                                        show Gl _ _ _ _ (s₁.setTop (mkF m 164 #[.val (.int u)] [(.int (63744 : Int32)), (.int u)]))
                                        refine Gl.go ?_ (fun t k => XS.icmpYes X0.here hx rfl (pc0 := 164) (pc' := 173) rfl (hb hby d2_164) rfl (tlt (iv_lt' (k := 63744) rfl (by have q0 := iv_ne (k := 58) rfl hc1; have q1 := iv_nlt (k := 65) rfl hc2; have q2 := iv_gt (k := 90) rfl hc3; have q3 := iv_ne (k := 95) rfl hc4; have q4 := iv_nlt (k := 97) rfl hc5; have q5 := iv_gt (k := 122) rfl hc6; have q6 := iv_nlt (k := 192) rfl hc7; have q7 := iv_gt (k := 214) rfl hc8; have q8 := iv_nlt (k := 216) rfl hc9; have q9 := iv_gt (k := 246) rfl hc10; have q10 := iv_nlt (k := 248) rfl hc11; have q11 := iv_gt (k := 767) rfl hc12; have q12 := iv_nlt (k := 880) rfl hc13; have q13 := iv_gt (k := 893) rfl hc14; have q14 := iv_nlt (k := 895) rfl hc15; have q15 := iv_gt (k := 8191) rfl hc16; have q16 := iv_nlt (k := 8204) rfl hc17; have q17 := iv_gt (k := 8205) rfl hc18; have q18 := iv_lt (k := 8304) rfl hc19; omega) : u < (63744 : Int32))).1 (by decide) (by decide) k)
                                        show Gl _ _ _ _ (s₁.setTop (mkF m 173 #[.val (.int u)] []))
                                        refine Gl.go ?_ (fun t k => XS.iloadN X0.here hx rfl (hb hby d2_173) rfl k)
                                        show Gl _ _ _ _ (s₁.setTop (mkF m 174 #[.val (.int u)] [(.int u)]))
                                        refine Gl.go ?_ (X0.ldcInt hx hown (mvT hZ (hw _ (List.mem_of_getElem? (i := 4) rfl))) (g := (mkF m 174 #[.val (.int u)] [(.int u)])) rfl (hb hby d2_174))
                                        show Gl _ _ _ _ (s₁.setTop (mkF m 176 #[.val (.int u)] [(.int (65008 : Int32)), (.int u)]))
                                        refine Gl.go ?_ (fun t k => XS.icmpYes X0.here hx rfl (pc0 := 176) (pc' := 185) rfl (hb hby d2_176) rfl (tlt (iv_lt' (k := 65008) rfl (by have q0 := iv_ne (k := 58) rfl hc1; have q1 := iv_nlt (k := 65) rfl hc2; have q2 := iv_gt (k := 90) rfl hc3; have q3 := iv_ne (k := 95) rfl hc4; have q4 := iv_nlt (k := 97) rfl hc5; have q5 := iv_gt (k := 122) rfl hc6; have q6 := iv_nlt (k := 192) rfl hc7; have q7 := iv_gt (k := 214) rfl hc8; have q8 := iv_nlt (k := 216) rfl hc9; have q9 := iv_gt (k := 246) rfl hc10; have q10 := iv_nlt (k := 248) rfl hc11; have q11 := iv_gt (k := 767) rfl hc12; have q12 := iv_nlt (k := 880) rfl hc13; have q13 := iv_gt (k := 893) rfl hc14; have q14 := iv_nlt (k := 895) rfl hc15; have q15 := iv_gt (k := 8191) rfl hc16; have q16 := iv_nlt (k := 8204) rfl hc17; have q17 := iv_gt (k := 8205) rfl hc18; have q18 := iv_lt (k := 8304) rfl hc19; omega) : u < (65008 : Int32))).1 (by decide) (by decide) k)
                                        show Gl _ _ _ _ (s₁.setTop (mkF m 185 #[.val (.int u)] []))
                                        refine Gl.go ?_ (fun t k => XS.iloadN X0.here hx rfl (hb hby d2_185) rfl k)
                                        show Gl _ _ _ _ (s₁.setTop (mkF m 186 #[.val (.int u)] [(.int u)]))
                                        refine Gl.go ?_ (X0.ldcInt hx hown (mvT hZ (hw _ (List.mem_of_getElem? (i := 6) rfl))) (g := (mkF m 186 #[.val (.int u)] [(.int u)])) rfl (hb hby d2_186))
                                        show Gl _ _ _ _ (s₁.setTop (mkF m 188 #[.val (.int u)] [(.int (65536 : Int32)), (.int u)]))
                                        refine Gl.go ?_ (fun t k => XS.icmpYes X0.here hx rfl (pc0 := 188) (pc' := 201) rfl (hb hby d2_188) rfl (tlt (iv_lt' (k := 65536) rfl (by have q0 := iv_ne (k := 58) rfl hc1; have q1 := iv_nlt (k := 65) rfl hc2; have q2 := iv_gt (k := 90) rfl hc3; have q3 := iv_ne (k := 95) rfl hc4; have q4 := iv_nlt (k := 97) rfl hc5; have q5 := iv_gt (k := 122) rfl hc6; have q6 := iv_nlt (k := 192) rfl hc7; have q7 := iv_gt (k := 214) rfl hc8; have q8 := iv_nlt (k := 216) rfl hc9; have q9 := iv_gt (k := 246) rfl hc10; have q10 := iv_nlt (k := 248) rfl hc11; have q11 := iv_gt (k := 767) rfl hc12; have q12 := iv_nlt (k := 880) rfl hc13; have q13 := iv_gt (k := 893) rfl hc14; have q14 := iv_nlt (k := 895) rfl hc15; have q15 := iv_gt (k := 8191) rfl hc16; have q16 := iv_nlt (k := 8204) rfl hc17; have q17 := iv_gt (k := 8205) rfl hc18; have q18 := iv_lt (k := 8304) rfl hc19; omega) : u < (65536 : Int32))).1 (by decide) (by decide) k)
                                        show Gl _ _ _ _ (s₁.setTop (mkF m 201 #[.val (.int u)] []))
                                        refine Gl.go ?_ (fun t k => XS.iconst X0.here hx rfl (hb hby d2_201) k)
                                        show Gl _ _ _ _ (s₁.setTop (mkF m 202 #[.val (.int u)] [(.int (0 : Int32))]))
                                        obtain ⟨fs, hr, hrun, hended, hW, hsame⟩ := X0.leave (v := some (.int (0 : Int32))) (fun h => by rw [Bd.returns] at h; cases h) (BodyLoose.notSynchronized Bd)
                                        exact Gl.mk ⟨_, _, retN X0 hx (t := .boolean) Bd.returns (by simp) (hb hby d2_202) hr, hrun, hended, _, _, rfl, ⟨congrArg (fun z => some (Value.int z)) ((if_neg hc1).trans ((if_neg hc2).trans ((if_pos hc3).trans ((if_neg hc4).trans ((if_neg hc5).trans ((if_pos hc6).trans ((if_neg hc7).trans ((if_pos hc8).trans ((if_neg hc9).trans ((if_pos hc10).trans ((if_neg hc11).trans ((if_pos hc12).trans ((if_neg hc13).trans ((if_pos hc14).trans ((if_neg hc15).trans ((if_pos hc16).trans ((if_neg hc17).trans ((if_pos hc18).trans ((if_pos hc19).trans (rfl)))))))))))))))))))).symm, rfl, e0⟩, ⟨_, rfl⟩, hW, hsame.mono (by decide) (by decide)⟩
                                      · refine Gl.go ?_ (fun t k => XS.icmpNo X0.here hx rfl (hb hby d2_124) rfl (flt hc19).1 k)
                                        show Gl _ _ _ _ (s₁.setTop (mkF m 127 #[.val (.int u)] []))
                                        refine Gl.go ?_ (fun t k => XS.iloadN X0.here hx rfl (hb hby d2_127) rfl k)
                                        show Gl _ _ _ _ (s₁.setTop (mkF m 128 #[.val (.int u)] [(.int u)]))
                                        refine Gl.go ?_ (fun t k => XS.sipush X0.here hx rfl (hb hby d2_128) k)
                                        show Gl _ _ _ _ (s₁.setTop (mkF m 131 #[.val (.int u)] [(.int (8591 : Int32)), (.int u)]))
                                        by_cases hc20 : (8591 : Int32) < u
                                        · refine Gl.go ?_ (fun t k => XS.icmpNo X0.here hx rfl (hb hby d2_131) rfl (tlt hc20).2.2.2 k)
                                          show Gl _ _ _ _ (s₁.setTop (mkF m 134 #[.val (.int u)] []))
                                          refine Gl.go ?_ (fun t k => XS.iloadN X0.here hx rfl (hb hby d2_134) rfl k)
                                          show Gl _ _ _ _ (s₁.setTop (mkF m 135 #[.val (.int u)] [(.int u)]))
                                          refine Gl.go ?_ (fun t k => XS.sipush X0.here hx rfl (hb hby d2_135) k)
                                          show Gl _ _ _ _ (s₁.setTop (mkF m 138 #[.val (.int u)] [(.int (11264 : Int32)), (.int u)]))
                                          by_cases hc21 : u < (11264 : Int32)
                                          · refine Gl.go ?_ (fun t k => XS.icmpYes X0.here hx rfl (pc0 := 138) (pc' := 148) rfl (hb hby d2_138) rfl (tlt hc21).1 (by decide) (by decide) k)
                                            show Gl _ _ _ _ (s₁.setTop (mkF m 148 #[.val (.int u)] []))
                                            refine Gl.go ?_ (fun t k => XS.iloadN X0.here hx rfl (hb hby d2_148) rfl k)
                                            show Gl _ _ _ _ (s₁.setTop (mkF m 149 #[.val (.int u)] [(.int u)]))
                                            refine Gl.go ?_ (fun t k => XS.sipush X0.here hx rfl (hb hby d2_149) k)
                                            show Gl _ _ _ _ (s₁.setTop (mkF m 152 #[.val (.int u)] [(.int (12289 : Int32)), (.int u)]))
                                            refine Gl.go ?_ (fun t k => XS.icmpYes X0.here hx rfl (pc0 := 152) (pc' := 161) rfl (hb hby d2_152) rfl (tlt (iv_lt' (k := 12289) rfl (by have q0 := iv_ne (k := 58) rfl hc1; have q1 := iv_nlt (k := 65) rfl hc2; have q2 := iv_gt (k := 90) rfl hc3; have q3 := iv_ne (k := 95) rfl hc4; have q4 := iv_nlt (k := 97) rfl hc5; have q5 := iv_gt (k := 122) rfl hc6; have q6 := iv_nlt (k := 192) rfl hc7; have q7 := iv_gt (k := 214) rfl hc8; have q8 := iv_nlt (k := 216) rfl hc9; have q9 := iv_gt (k := 246) rfl hc10; have q10 := iv_nlt (k := 248) rfl hc11; have q11 := iv_gt (k := 767) rfl hc12; have q12 := iv_nlt (k := 880) rfl hc13; have q13 := iv_gt (k := 893) rfl hc14; have q14 := iv_nlt (k := 895) rfl hc15; have q15 := iv_gt (k := 8191) rfl hc16; have q16 := iv_nlt (k := 8204) rfl hc17; have q17 := iv_gt (k := 8205) rfl hc18; have q18 := iv_nlt (k := 8304) rfl hc19; have q19 := iv_gt (k := 8591) rfl hc20; have q20 := iv_lt (k := 11264) rfl hc21; omega) : u < (12289 : Int32))).1 (by decide) (by decide) k)
                                            show Gl _ _ _ _ (s₁.setTop (mkF m 161 #[.val (.int u)] []))
                                            refine Gl.go ?_ (fun t k => XS.iloadN X0.here hx rfl (hb hby d2_161) rfl k)
                                            show Gl _ _ _ _ (s₁.setTop (mkF m 162 #[.val (.int u)] [(.int u)]))
                                            refine Gl.go ?_ (X0.ldcInt hx hown (mvT hZ (hw _ (List.mem_of_getElem? (i := 2) rfl))) (g := (mkF m 162 #[.val (.int u)] [(.int u)])) rfl (hb hby d2_162))
                                            show Gl _ _ _ _ (s₁.setTop (mkF m 164 #[.val (.int u)] [(.int (63744 : Int32)), (.int u)]))
                                            refine Gl.go ?_ (fun t k => XS.icmpYes X0.here hx rfl (pc0 := 164) (pc' := 173) rfl (hb hby d2_164) rfl (tlt (iv_lt' (k := 63744) rfl (by have q0 := iv_ne (k := 58) rfl hc1; have q1 := iv_nlt (k := 65) rfl hc2; have q2 := iv_gt (k := 90) rfl hc3; have q3 := iv_ne (k := 95) rfl hc4; have q4 := iv_nlt (k := 97) rfl hc5; have q5 := iv_gt (k := 122) rfl hc6; have q6 := iv_nlt (k := 192) rfl hc7; have q7 := iv_gt (k := 214) rfl hc8; have q8 := iv_nlt (k := 216) rfl hc9; have q9 := iv_gt (k := 246) rfl hc10; have q10 := iv_nlt (k := 248) rfl hc11; have q11 := iv_gt (k := 767) rfl hc12; have q12 := iv_nlt (k := 880) rfl hc13; have q13 := iv_gt (k := 893) rfl hc14; have q14 := iv_nlt (k := 895) rfl hc15; have q15 := iv_gt (k := 8191) rfl hc16; have q16 := iv_nlt (k := 8204) rfl hc17; have q17 := iv_gt (k := 8205) rfl hc18; have q18 := iv_nlt (k := 8304) rfl hc19; have q19 := iv_gt (k := 8591) rfl hc20; have q20 := iv_lt (k := 11264) rfl hc21; omega) : u < (63744 : Int32))).1 (by decide) (by decide) k)
                                            show Gl _ _ _ _ (s₁.setTop (mkF m 173 #[.val (.int u)] []))
                                            refine Gl.go ?_ (fun t k => XS.iloadN X0.here hx rfl (hb hby d2_173) rfl k)
                                            show Gl _ _ _ _ (s₁.setTop (mkF m 174 #[.val (.int u)] [(.int u)]))
                                            refine Gl.go ?_ (X0.ldcInt hx hown (mvT hZ (hw _ (List.mem_of_getElem? (i := 4) rfl))) (g := (mkF m 174 #[.val (.int u)] [(.int u)])) rfl (hb hby d2_174))
                                            show Gl _ _ _ _ (s₁.setTop (mkF m 176 #[.val (.int u)] [(.int (65008 : Int32)), (.int u)]))
                                            refine Gl.go ?_ (fun t k => XS.icmpYes X0.here hx rfl (pc0 := 176) (pc' := 185) rfl (hb hby d2_176) rfl (tlt (iv_lt' (k := 65008) rfl (by have q0 := iv_ne (k := 58) rfl hc1; have q1 := iv_nlt (k := 65) rfl hc2; have q2 := iv_gt (k := 90) rfl hc3; have q3 := iv_ne (k := 95) rfl hc4; have q4 := iv_nlt (k := 97) rfl hc5; have q5 := iv_gt (k := 122) rfl hc6; have q6 := iv_nlt (k := 192) rfl hc7; have q7 := iv_gt (k := 214) rfl hc8; have q8 := iv_nlt (k := 216) rfl hc9; have q9 := iv_gt (k := 246) rfl hc10; have q10 := iv_nlt (k := 248) rfl hc11; have q11 := iv_gt (k := 767) rfl hc12; have q12 := iv_nlt (k := 880) rfl hc13; have q13 := iv_gt (k := 893) rfl hc14; have q14 := iv_nlt (k := 895) rfl hc15; have q15 := iv_gt (k := 8191) rfl hc16; have q16 := iv_nlt (k := 8204) rfl hc17; have q17 := iv_gt (k := 8205) rfl hc18; have q18 := iv_nlt (k := 8304) rfl hc19; have q19 := iv_gt (k := 8591) rfl hc20; have q20 := iv_lt (k := 11264) rfl hc21; omega) : u < (65008 : Int32))).1 (by decide) (by decide) k)
                                            show Gl _ _ _ _ (s₁.setTop (mkF m 185 #[.val (.int u)] []))
                                            refine Gl.go ?_ (fun t k => XS.iloadN X0.here hx rfl (hb hby d2_185) rfl k)
                                            show Gl _ _ _ _ (s₁.setTop (mkF m 186 #[.val (.int u)] [(.int u)]))
                                            refine Gl.go ?_ (X0.ldcInt hx hown (mvT hZ (hw _ (List.mem_of_getElem? (i := 6) rfl))) (g := (mkF m 186 #[.val (.int u)] [(.int u)])) rfl (hb hby d2_186))
                                            show Gl _ _ _ _ (s₁.setTop (mkF m 188 #[.val (.int u)] [(.int (65536 : Int32)), (.int u)]))
                                            refine Gl.go ?_ (fun t k => XS.icmpYes X0.here hx rfl (pc0 := 188) (pc' := 201) rfl (hb hby d2_188) rfl (tlt (iv_lt' (k := 65536) rfl (by have q0 := iv_ne (k := 58) rfl hc1; have q1 := iv_nlt (k := 65) rfl hc2; have q2 := iv_gt (k := 90) rfl hc3; have q3 := iv_ne (k := 95) rfl hc4; have q4 := iv_nlt (k := 97) rfl hc5; have q5 := iv_gt (k := 122) rfl hc6; have q6 := iv_nlt (k := 192) rfl hc7; have q7 := iv_gt (k := 214) rfl hc8; have q8 := iv_nlt (k := 216) rfl hc9; have q9 := iv_gt (k := 246) rfl hc10; have q10 := iv_nlt (k := 248) rfl hc11; have q11 := iv_gt (k := 767) rfl hc12; have q12 := iv_nlt (k := 880) rfl hc13; have q13 := iv_gt (k := 893) rfl hc14; have q14 := iv_nlt (k := 895) rfl hc15; have q15 := iv_gt (k := 8191) rfl hc16; have q16 := iv_nlt (k := 8204) rfl hc17; have q17 := iv_gt (k := 8205) rfl hc18; have q18 := iv_nlt (k := 8304) rfl hc19; have q19 := iv_gt (k := 8591) rfl hc20; have q20 := iv_lt (k := 11264) rfl hc21; omega) : u < (65536 : Int32))).1 (by decide) (by decide) k)
                                            show Gl _ _ _ _ (s₁.setTop (mkF m 201 #[.val (.int u)] []))
                                            refine Gl.go ?_ (fun t k => XS.iconst X0.here hx rfl (hb hby d2_201) k)
                                            show Gl _ _ _ _ (s₁.setTop (mkF m 202 #[.val (.int u)] [(.int (0 : Int32))]))
                                            obtain ⟨fs, hr, hrun, hended, hW, hsame⟩ := X0.leave (v := some (.int (0 : Int32))) (fun h => by rw [Bd.returns] at h; cases h) (BodyLoose.notSynchronized Bd)
                                            exact Gl.mk ⟨_, _, retN X0 hx (t := .boolean) Bd.returns (by simp) (hb hby d2_202) hr, hrun, hended, _, _, rfl, ⟨congrArg (fun z => some (Value.int z)) ((if_neg hc1).trans ((if_neg hc2).trans ((if_pos hc3).trans ((if_neg hc4).trans ((if_neg hc5).trans ((if_pos hc6).trans ((if_neg hc7).trans ((if_pos hc8).trans ((if_neg hc9).trans ((if_pos hc10).trans ((if_neg hc11).trans ((if_pos hc12).trans ((if_neg hc13).trans ((if_pos hc14).trans ((if_neg hc15).trans ((if_pos hc16).trans ((if_neg hc17).trans ((if_pos hc18).trans ((if_neg hc19).trans ((if_pos hc20).trans ((if_pos hc21).trans (rfl)))))))))))))))))))))).symm, rfl, e0⟩, ⟨_, rfl⟩, hW, hsame.mono (by decide) (by decide)⟩
                                          · refine Gl.go ?_ (fun t k => XS.icmpNo X0.here hx rfl (hb hby d2_138) rfl (flt hc21).1 k)
                                            show Gl _ _ _ _ (s₁.setTop (mkF m 141 #[.val (.int u)] []))
                                            refine Gl.go ?_ (fun t k => XS.iloadN X0.here hx rfl (hb hby d2_141) rfl k)
                                            show Gl _ _ _ _ (s₁.setTop (mkF m 142 #[.val (.int u)] [(.int u)]))
                                            refine Gl.go ?_ (fun t k => XS.sipush X0.here hx rfl (hb hby d2_142) k)
                                            show Gl _ _ _ _ (s₁.setTop (mkF m 145 #[.val (.int u)] [(.int (12271 : Int32)), (.int u)]))
                                            by_cases hc22 : (12271 : Int32) < u
                                            · refine Gl.go ?_ (fun t k => XS.icmpNo X0.here hx rfl (hb hby d2_145) rfl (tlt hc22).2.2.2 k)
                                              show Gl _ _ _ _ (s₁.setTop (mkF m 148 #[.val (.int u)] []))
                                              refine Gl.go ?_ (fun t k => XS.iloadN X0.here hx rfl (hb hby d2_148) rfl k)
                                              show Gl _ _ _ _ (s₁.setTop (mkF m 149 #[.val (.int u)] [(.int u)]))
                                              refine Gl.go ?_ (fun t k => XS.sipush X0.here hx rfl (hb hby d2_149) k)
                                              show Gl _ _ _ _ (s₁.setTop (mkF m 152 #[.val (.int u)] [(.int (12289 : Int32)), (.int u)]))
                                              by_cases hc23 : u < (12289 : Int32)
                                              · refine Gl.go ?_ (fun t k => XS.icmpYes X0.here hx rfl (pc0 := 152) (pc' := 161) rfl (hb hby d2_152) rfl (tlt hc23).1 (by decide) (by decide) k)
                                                show Gl _ _ _ _ (s₁.setTop (mkF m 161 #[.val (.int u)] []))
                                                refine Gl.go ?_ (fun t k => XS.iloadN X0.here hx rfl (hb hby d2_161) rfl k)
                                                show Gl _ _ _ _ (s₁.setTop (mkF m 162 #[.val (.int u)] [(.int u)]))
                                                refine Gl.go ?_ (X0.ldcInt hx hown (mvT hZ (hw _ (List.mem_of_getElem? (i := 2) rfl))) (g := (mkF m 162 #[.val (.int u)] [(.int u)])) rfl (hb hby d2_162))
                                                show Gl _ _ _ _ (s₁.setTop (mkF m 164 #[.val (.int u)] [(.int (63744 : Int32)), (.int u)]))
                                                refine Gl.go ?_ (fun t k => XS.icmpYes X0.here hx rfl (pc0 := 164) (pc' := 173) rfl (hb hby d2_164) rfl (tlt (iv_lt' (k := 63744) rfl (by have q0 := iv_ne (k := 58) rfl hc1; have q1 := iv_nlt (k := 65) rfl hc2; have q2 := iv_gt (k := 90) rfl hc3; have q3 := iv_ne (k := 95) rfl hc4; have q4 := iv_nlt (k := 97) rfl hc5; have q5 := iv_gt (k := 122) rfl hc6; have q6 := iv_nlt (k := 192) rfl hc7; have q7 := iv_gt (k := 214) rfl hc8; have q8 := iv_nlt (k := 216) rfl hc9; have q9 := iv_gt (k := 246) rfl hc10; have q10 := iv_nlt (k := 248) rfl hc11; have q11 := iv_gt (k := 767) rfl hc12; have q12 := iv_nlt (k := 880) rfl hc13; have q13 := iv_gt (k := 893) rfl hc14; have q14 := iv_nlt (k := 895) rfl hc15; have q15 := iv_gt (k := 8191) rfl hc16; have q16 := iv_nlt (k := 8204) rfl hc17; have q17 := iv_gt (k := 8205) rfl hc18; have q18 := iv_nlt (k := 8304) rfl hc19; have q19 := iv_gt (k := 8591) rfl hc20; have q20 := iv_nlt (k := 11264) rfl hc21; have q21 := iv_gt (k := 12271) rfl hc22; have q22 := iv_lt (k := 12289) rfl hc23; omega) : u < (63744 : Int32))).1 (by decide) (by decide) k)
                                                show Gl _ _ _ _ (s₁.setTop (mkF m 173 #[.val (.int u)] []))
                                                refine Gl.go ?_ (fun t k => XS.iloadN X0.here hx rfl (hb hby d2_173) rfl k)
                                                show Gl _ _ _ _ (s₁.setTop (mkF m 174 #[.val (.int u)] [(.int u)]))
                                                refine Gl.go ?_ (X0.ldcInt hx hown (mvT hZ (hw _ (List.mem_of_getElem? (i := 4) rfl))) (g := (mkF m 174 #[.val (.int u)] [(.int u)])) rfl (hb hby d2_174))
                                                show Gl _ _ _ _ (s₁.setTop (mkF m 176 #[.val (.int u)] [(.int (65008 : Int32)), (.int u)]))
                                                refine Gl.go ?_ (fun t k => XS.icmpYes X0.here hx rfl (pc0 := 176) (pc' := 185) rfl (hb hby d2_176) rfl (tlt (iv_lt' (k := 65008) rfl (by have q0 := iv_ne (k := 58) rfl hc1; have q1 := iv_nlt (k := 65) rfl hc2; have q2 := iv_gt (k := 90) rfl hc3; have q3 := iv_ne (k := 95) rfl hc4; have q4 := iv_nlt (k := 97) rfl hc5; have q5 := iv_gt (k := 122) rfl hc6; have q6 := iv_nlt (k := 192) rfl hc7; have q7 := iv_gt (k := 214) rfl hc8; have q8 := iv_nlt (k := 216) rfl hc9; have q9 := iv_gt (k := 246) rfl hc10; have q10 := iv_nlt (k := 248) rfl hc11; have q11 := iv_gt (k := 767) rfl hc12; have q12 := iv_nlt (k := 880) rfl hc13; have q13 := iv_gt (k := 893) rfl hc14; have q14 := iv_nlt (k := 895) rfl hc15; have q15 := iv_gt (k := 8191) rfl hc16; have q16 := iv_nlt (k := 8204) rfl hc17; have q17 := iv_gt (k := 8205) rfl hc18; have q18 := iv_nlt (k := 8304) rfl hc19; have q19 := iv_gt (k := 8591) rfl hc20; have q20 := iv_nlt (k := 11264) rfl hc21; have q21 := iv_gt (k := 12271) rfl hc22; have q22 := iv_lt (k := 12289) rfl hc23; omega) : u < (65008 : Int32))).1 (by decide) (by decide) k)
                                                show Gl _ _ _ _ (s₁.setTop (mkF m 185 #[.val (.int u)] []))
                                                refine Gl.go ?_ (fun t k => XS.iloadN X0.here hx rfl (hb hby d2_185) rfl k)
                                                show Gl _ _ _ _ (s₁.setTop (mkF m 186 #[.val (.int u)] [(.int u)]))
                                                refine Gl.go ?_ (X0.ldcInt hx hown (mvT hZ (hw _ (List.mem_of_getElem? (i := 6) rfl))) (g := (mkF m 186 #[.val (.int u)] [(.int u)])) rfl (hb hby d2_186))
                                                show Gl _ _ _ _ (s₁.setTop (mkF m 188 #[.val (.int u)] [(.int (65536 : Int32)), (.int u)]))
                                                refine Gl.go ?_ (fun t k => XS.icmpYes X0.here hx rfl (pc0 := 188) (pc' := 201) rfl (hb hby d2_188) rfl (tlt (iv_lt' (k := 65536) rfl (by have q0 := iv_ne (k := 58) rfl hc1; have q1 := iv_nlt (k := 65) rfl hc2; have q2 := iv_gt (k := 90) rfl hc3; have q3 := iv_ne (k := 95) rfl hc4; have q4 := iv_nlt (k := 97) rfl hc5; have q5 := iv_gt (k := 122) rfl hc6; have q6 := iv_nlt (k := 192) rfl hc7; have q7 := iv_gt (k := 214) rfl hc8; have q8 := iv_nlt (k := 216) rfl hc9; have q9 := iv_gt (k := 246) rfl hc10; have q10 := iv_nlt (k := 248) rfl hc11; have q11 := iv_gt (k := 767) rfl hc12; have q12 := iv_nlt (k := 880) rfl hc13; have q13 := iv_gt (k := 893) rfl hc14; have q14 := iv_nlt (k := 895) rfl hc15; have q15 := iv_gt (k := 8191) rfl hc16; have q16 := iv_nlt (k := 8204) rfl hc17; have q17 := iv_gt (k := 8205) rfl hc18; have q18 := iv_nlt (k := 8304) rfl hc19; have q19 := iv_gt (k := 8591) rfl hc20; have q20 := iv_nlt (k := 11264) rfl hc21; have q21 := iv_gt (k := 12271) rfl hc22; have q22 := iv_lt (k := 12289) rfl hc23; omega) : u < (65536 : Int32))).1 (by decide) (by decide) k)
                                                show Gl _ _ _ _ (s₁.setTop (mkF m 201 #[.val (.int u)] []))
                                                refine Gl.go ?_ (fun t k => XS.iconst X0.here hx rfl (hb hby d2_201) k)
                                                show Gl _ _ _ _ (s₁.setTop (mkF m 202 #[.val (.int u)] [(.int (0 : Int32))]))
                                                obtain ⟨fs, hr, hrun, hended, hW, hsame⟩ := X0.leave (v := some (.int (0 : Int32))) (fun h => by rw [Bd.returns] at h; cases h) (BodyLoose.notSynchronized Bd)
                                                exact Gl.mk ⟨_, _, retN X0 hx (t := .boolean) Bd.returns (by simp) (hb hby d2_202) hr, hrun, hended, _, _, rfl, ⟨congrArg (fun z => some (Value.int z)) ((if_neg hc1).trans ((if_neg hc2).trans ((if_pos hc3).trans ((if_neg hc4).trans ((if_neg hc5).trans ((if_pos hc6).trans ((if_neg hc7).trans ((if_pos hc8).trans ((if_neg hc9).trans ((if_pos hc10).trans ((if_neg hc11).trans ((if_pos hc12).trans ((if_neg hc13).trans ((if_pos hc14).trans ((if_neg hc15).trans ((if_pos hc16).trans ((if_neg hc17).trans ((if_pos hc18).trans ((if_neg hc19).trans ((if_pos hc20).trans ((if_neg hc21).trans ((if_pos hc22).trans ((if_pos hc23).trans (rfl)))))))))))))))))))))))).symm, rfl, e0⟩, ⟨_, rfl⟩, hW, hsame.mono (by decide) (by decide)⟩
                                              · refine Gl.go ?_ (fun t k => XS.icmpNo X0.here hx rfl (hb hby d2_152) rfl (flt hc23).1 k)
                                                show Gl _ _ _ _ (s₁.setTop (mkF m 155 #[.val (.int u)] []))
                                                refine Gl.go ?_ (fun t k => XS.iloadN X0.here hx rfl (hb hby d2_155) rfl k)
                                                show Gl _ _ _ _ (s₁.setTop (mkF m 156 #[.val (.int u)] [(.int u)]))
                                                refine Gl.go ?_ (X0.ldcInt hx hown (mvT hZ (hw _ (List.mem_of_getElem? (i := 1) rfl))) (g := (mkF m 156 #[.val (.int u)] [(.int u)])) rfl (hb hby d2_156))
                                                show Gl _ _ _ _ (s₁.setTop (mkF m 158 #[.val (.int u)] [(.int (55295 : Int32)), (.int u)]))
                                                by_cases hc24 : (55295 : Int32) < u
                                                · refine Gl.go ?_ (fun t k => XS.icmpNo X0.here hx rfl (hb hby d2_158) rfl (tlt hc24).2.2.2 k)
                                                  show Gl _ _ _ _ (s₁.setTop (mkF m 161 #[.val (.int u)] []))
                                                  refine Gl.go ?_ (fun t k => XS.iloadN X0.here hx rfl (hb hby d2_161) rfl k)
                                                  show Gl _ _ _ _ (s₁.setTop (mkF m 162 #[.val (.int u)] [(.int u)]))
                                                  refine Gl.go ?_ (X0.ldcInt hx hown (mvT hZ (hw _ (List.mem_of_getElem? (i := 2) rfl))) (g := (mkF m 162 #[.val (.int u)] [(.int u)])) rfl (hb hby d2_162))
                                                  show Gl _ _ _ _ (s₁.setTop (mkF m 164 #[.val (.int u)] [(.int (63744 : Int32)), (.int u)]))
                                                  by_cases hc25 : u < (63744 : Int32)
                                                  · refine Gl.go ?_ (fun t k => XS.icmpYes X0.here hx rfl (pc0 := 164) (pc' := 173) rfl (hb hby d2_164) rfl (tlt hc25).1 (by decide) (by decide) k)
                                                    show Gl _ _ _ _ (s₁.setTop (mkF m 173 #[.val (.int u)] []))
                                                    refine Gl.go ?_ (fun t k => XS.iloadN X0.here hx rfl (hb hby d2_173) rfl k)
                                                    show Gl _ _ _ _ (s₁.setTop (mkF m 174 #[.val (.int u)] [(.int u)]))
                                                    refine Gl.go ?_ (X0.ldcInt hx hown (mvT hZ (hw _ (List.mem_of_getElem? (i := 4) rfl))) (g := (mkF m 174 #[.val (.int u)] [(.int u)])) rfl (hb hby d2_174))
                                                    show Gl _ _ _ _ (s₁.setTop (mkF m 176 #[.val (.int u)] [(.int (65008 : Int32)), (.int u)]))
                                                    refine Gl.go ?_ (fun t k => XS.icmpYes X0.here hx rfl (pc0 := 176) (pc' := 185) rfl (hb hby d2_176) rfl (tlt (iv_lt' (k := 65008) rfl (by have q0 := iv_ne (k := 58) rfl hc1; have q1 := iv_nlt (k := 65) rfl hc2; have q2 := iv_gt (k := 90) rfl hc3; have q3 := iv_ne (k := 95) rfl hc4; have q4 := iv_nlt (k := 97) rfl hc5; have q5 := iv_gt (k := 122) rfl hc6; have q6 := iv_nlt (k := 192) rfl hc7; have q7 := iv_gt (k := 214) rfl hc8; have q8 := iv_nlt (k := 216) rfl hc9; have q9 := iv_gt (k := 246) rfl hc10; have q10 := iv_nlt (k := 248) rfl hc11; have q11 := iv_gt (k := 767) rfl hc12; have q12 := iv_nlt (k := 880) rfl hc13; have q13 := iv_gt (k := 893) rfl hc14; have q14 := iv_nlt (k := 895) rfl hc15; have q15 := iv_gt (k := 8191) rfl hc16; have q16 := iv_nlt (k := 8204) rfl hc17; have q17 := iv_gt (k := 8205) rfl hc18; have q18 := iv_nlt (k := 8304) rfl hc19; have q19 := iv_gt (k := 8591) rfl hc20; have q20 := iv_nlt (k := 11264) rfl hc21; have q21 := iv_gt (k := 12271) rfl hc22; have q22 := iv_nlt (k := 12289) rfl hc23; have q23 := iv_gt (k := 55295) rfl hc24; have q24 := iv_lt (k := 63744) rfl hc25; omega) : u < (65008 : Int32))).1 (by decide) (by decide) k)
                                                    show Gl _ _ _ _ (s₁.setTop (mkF m 185 #[.val (.int u)] []))
                                                    refine Gl.go ?_ (fun t k => XS.iloadN X0.here hx rfl (hb hby d2_185) rfl k)
                                                    show Gl _ _ _ _ (s₁.setTop (mkF m 186 #[.val (.int u)] [(.int u)]))
                                                    refine Gl.go ?_ (X0.ldcInt hx hown (mvT hZ (hw _ (List.mem_of_getElem? (i := 6) rfl))) (g := (mkF m 186 #[.val (.int u)] [(.int u)])) rfl (hb hby d2_186))
                                                    show Gl _ _ _ _ (s₁.setTop (mkF m 188 #[.val (.int u)] [(.int (65536 : Int32)), (.int u)]))
                                                    refine Gl.go ?_ (fun t k => XS.icmpYes X0.here hx rfl (pc0 := 188) (pc' := 201) rfl (hb hby d2_188) rfl (tlt (iv_lt' (k := 65536) rfl (by have q0 := iv_ne (k := 58) rfl hc1; have q1 := iv_nlt (k := 65) rfl hc2; have q2 := iv_gt (k := 90) rfl hc3; have q3 := iv_ne (k := 95) rfl hc4; have q4 := iv_nlt (k := 97) rfl hc5; have q5 := iv_gt (k := 122) rfl hc6; have q6 := iv_nlt (k := 192) rfl hc7; have q7 := iv_gt (k := 214) rfl hc8; have q8 := iv_nlt (k := 216) rfl hc9; have q9 := iv_gt (k := 246) rfl hc10; have q10 := iv_nlt (k := 248) rfl hc11; have q11 := iv_gt (k := 767) rfl hc12; have q12 := iv_nlt (k := 880) rfl hc13; have q13 := iv_gt (k := 893) rfl hc14; have q14 := iv_nlt (k := 895) rfl hc15; have q15 := iv_gt (k := 8191) rfl hc16; have q16 := iv_nlt (k := 8204) rfl hc17; have q17 := iv_gt (k := 8205) rfl hc18; have q18 := iv_nlt (k := 8304) rfl hc19; have q19 := iv_gt (k := 8591) rfl hc20; have q20 := iv_nlt (k := 11264) rfl hc21; have q21 := iv_gt (k := 12271) rfl hc22; have q22 := iv_nlt (k := 12289) rfl hc23; have q23 := iv_gt (k := 55295) rfl hc24; have q24 := iv_lt (k := 63744) rfl hc25; omega) : u < (65536 : Int32))).1 (by decide) (by decide) k)
                                                    show Gl _ _ _ _ (s₁.setTop (mkF m 201 #[.val (.int u)] []))
                                                    refine Gl.go ?_ (fun t k => XS.iconst X0.here hx rfl (hb hby d2_201) k)
                                                    show Gl _ _ _ _ (s₁.setTop (mkF m 202 #[.val (.int u)] [(.int (0 : Int32))]))
                                                    obtain ⟨fs, hr, hrun, hended, hW, hsame⟩ := X0.leave (v := some (.int (0 : Int32))) (fun h => by rw [Bd.returns] at h; cases h) (BodyLoose.notSynchronized Bd)
                                                    exact Gl.mk ⟨_, _, retN X0 hx (t := .boolean) Bd.returns (by simp) (hb hby d2_202) hr, hrun, hended, _, _, rfl, ⟨congrArg (fun z => some (Value.int z)) ((if_neg hc1).trans ((if_neg hc2).trans ((if_pos hc3).trans ((if_neg hc4).trans ((if_neg hc5).trans ((if_pos hc6).trans ((if_neg hc7).trans ((if_pos hc8).trans ((if_neg hc9).trans ((if_pos hc10).trans ((if_neg hc11).trans ((if_pos hc12).trans ((if_neg hc13).trans ((if_pos hc14).trans ((if_neg hc15).trans ((if_pos hc16).trans ((if_neg hc17).trans ((if_pos hc18).trans ((if_neg hc19).trans ((if_pos hc20).trans ((if_neg hc21).trans ((if_pos hc22).trans ((if_neg hc23).trans ((if_pos hc24).trans ((if_pos hc25).trans (rfl)))))))))))))))))))))))))).symm, rfl, e0⟩, ⟨_, rfl⟩, hW, hsame.mono (by decide) (by decide)⟩
                                                  · refine Gl.go ?_ (fun t k => XS.icmpNo X0.here hx rfl (hb hby d2_164) rfl (flt hc25).1 k)
                                                    show Gl _ _ _ _ (s₁.setTop (mkF m 167 #[.val (.int u)] []))
                                                    refine Gl.go ?_ (fun t k => XS.iloadN X0.here hx rfl (hb hby d2_167) rfl k)
                                                    show Gl _ _ _ _ (s₁.setTop (mkF m 168 #[.val (.int u)] [(.int u)]))
                                                    refine Gl.go ?_ (X0.ldcInt hx hown (mvT hZ (hw _ (List.mem_of_getElem? (i := 3) rfl))) (g := (mkF m 168 #[.val (.int u)] [(.int u)])) rfl (hb hby d2_168))
                                                    show Gl _ _ _ _ (s₁.setTop (mkF m 170 #[.val (.int u)] [(.int (64975 : Int32)), (.int u)]))
                                                    by_cases hc26 : (64975 : Int32) < u
                                                    · refine Gl.go ?_ (fun t k => XS.icmpNo X0.here hx rfl (hb hby d2_170) rfl (tlt hc26).2.2.2 k)
                                                      show Gl _ _ _ _ (s₁.setTop (mkF m 173 #[.val (.int u)] []))
                                                      refine Gl.go ?_ (fun t k => XS.iloadN X0.here hx rfl (hb hby d2_173) rfl k)
                                                      show Gl _ _ _ _ (s₁.setTop (mkF m 174 #[.val (.int u)] [(.int u)]))
                                                      refine Gl.go ?_ (X0.ldcInt hx hown (mvT hZ (hw _ (List.mem_of_getElem? (i := 4) rfl))) (g := (mkF m 174 #[.val (.int u)] [(.int u)])) rfl (hb hby d2_174))
                                                      show Gl _ _ _ _ (s₁.setTop (mkF m 176 #[.val (.int u)] [(.int (65008 : Int32)), (.int u)]))
                                                      by_cases hc27 : u < (65008 : Int32)
                                                      · refine Gl.go ?_ (fun t k => XS.icmpYes X0.here hx rfl (pc0 := 176) (pc' := 185) rfl (hb hby d2_176) rfl (tlt hc27).1 (by decide) (by decide) k)
                                                        show Gl _ _ _ _ (s₁.setTop (mkF m 185 #[.val (.int u)] []))
                                                        refine Gl.go ?_ (fun t k => XS.iloadN X0.here hx rfl (hb hby d2_185) rfl k)
                                                        show Gl _ _ _ _ (s₁.setTop (mkF m 186 #[.val (.int u)] [(.int u)]))
                                                        refine Gl.go ?_ (X0.ldcInt hx hown (mvT hZ (hw _ (List.mem_of_getElem? (i := 6) rfl))) (g := (mkF m 186 #[.val (.int u)] [(.int u)])) rfl (hb hby d2_186))
                                                        show Gl _ _ _ _ (s₁.setTop (mkF m 188 #[.val (.int u)] [(.int (65536 : Int32)), (.int u)]))
                                                        refine Gl.go ?_ (fun t k => XS.icmpYes X0.here hx rfl (pc0 := 188) (pc' := 201) rfl (hb hby d2_188) rfl (tlt (iv_lt' (k := 65536) rfl (by have q0 := iv_ne (k := 58) rfl hc1; have q1 := iv_nlt (k := 65) rfl hc2; have q2 := iv_gt (k := 90) rfl hc3; have q3 := iv_ne (k := 95) rfl hc4; have q4 := iv_nlt (k := 97) rfl hc5; have q5 := iv_gt (k := 122) rfl hc6; have q6 := iv_nlt (k := 192) rfl hc7; have q7 := iv_gt (k := 214) rfl hc8; have q8 := iv_nlt (k := 216) rfl hc9; have q9 := iv_gt (k := 246) rfl hc10; have q10 := iv_nlt (k := 248) rfl hc11; have q11 := iv_gt (k := 767) rfl hc12; have q12 := iv_nlt (k := 880) rfl hc13; have q13 := iv_gt (k := 893) rfl hc14; have q14 := iv_nlt (k := 895) rfl hc15; have q15 := iv_gt (k := 8191) rfl hc16; have q16 := iv_nlt (k := 8204) rfl hc17; have q17 := iv_gt (k := 8205) rfl hc18; have q18 := iv_nlt (k := 8304) rfl hc19; have q19 := iv_gt (k := 8591) rfl hc20; have q20 := iv_nlt (k := 11264) rfl hc21; have q21 := iv_gt (k := 12271) rfl hc22; have q22 := iv_nlt (k := 12289) rfl hc23; have q23 := iv_gt (k := 55295) rfl hc24; have q24 := iv_nlt (k := 63744) rfl hc25; have q25 := iv_gt (k := 64975) rfl hc26; have q26 := iv_lt (k := 65008) rfl hc27; omega) : u < (65536 : Int32))).1 (by decide) (by decide) k)
                                                        show Gl _ _ _ _ (s₁.setTop (mkF m 201 #[.val (.int u)] []))
                                                        refine Gl.go ?_ (fun t k => XS.iconst X0.here hx rfl (hb hby d2_201) k)
                                                        show Gl _ _ _ _ (s₁.setTop (mkF m 202 #[.val (.int u)] [(.int (0 : Int32))]))
                                                        obtain ⟨fs, hr, hrun, hended, hW, hsame⟩ := X0.leave (v := some (.int (0 : Int32))) (fun h => by rw [Bd.returns] at h; cases h) (BodyLoose.notSynchronized Bd)
                                                        exact Gl.mk ⟨_, _, retN X0 hx (t := .boolean) Bd.returns (by simp) (hb hby d2_202) hr, hrun, hended, _, _, rfl, ⟨congrArg (fun z => some (Value.int z)) ((if_neg hc1).trans ((if_neg hc2).trans ((if_pos hc3).trans ((if_neg hc4).trans ((if_neg hc5).trans ((if_pos hc6).trans ((if_neg hc7).trans ((if_pos hc8).trans ((if_neg hc9).trans ((if_pos hc10).trans ((if_neg hc11).trans ((if_pos hc12).trans ((if_neg hc13).trans ((if_pos hc14).trans ((if_neg hc15).trans ((if_pos hc16).trans ((if_neg hc17).trans ((if_pos hc18).trans ((if_neg hc19).trans ((if_pos hc20).trans ((if_neg hc21).trans ((if_pos hc22).trans ((if_neg hc23).trans ((if_pos hc24).trans ((if_neg hc25).trans ((if_pos hc26).trans ((if_pos hc27).trans (rfl)))))))))))))))))))))))))))).symm, rfl, e0⟩, ⟨_, rfl⟩, hW, hsame.mono (by decide) (by decide)⟩
                                                      · refine Gl.go ?_ (fun t k => XS.icmpNo X0.here hx rfl (hb hby d2_176) rfl (flt hc27).1 k)
                                                        show Gl _ _ _ _ (s₁.setTop (mkF m 179 #[.val (.int u)] []))
                                                        refine Gl.go ?_ (fun t k => XS.iloadN X0.here hx rfl (hb hby d2_179) rfl k)
                                                        show Gl _ _ _ _ (s₁.setTop (mkF m 180 #[.val (.int u)] [(.int u)]))
                                                        refine Gl.go ?_ (X0.ldcInt hx hown (mvT hZ (hw _ (List.mem_of_getElem? (i := 5) rfl))) (g := (mkF m 180 #[.val (.int u)] [(.int u)])) rfl (hb hby d2_180))
                                                        show Gl _ _ _ _ (s₁.setTop (mkF m 182 #[.val (.int u)] [(.int (65533 : Int32)), (.int u)]))
                                                        by_cases hc28 : (65533 : Int32) < u
                                                        · refine Gl.go ?_ (fun t k => XS.icmpNo X0.here hx rfl (hb hby d2_182) rfl (tlt hc28).2.2.2 k)
                                                          show Gl _ _ _ _ (s₁.setTop (mkF m 185 #[.val (.int u)] []))
                                                          refine Gl.go ?_ (fun t k => XS.iloadN X0.here hx rfl (hb hby d2_185) rfl k)
                                                          show Gl _ _ _ _ (s₁.setTop (mkF m 186 #[.val (.int u)] [(.int u)]))
                                                          refine Gl.go ?_ (X0.ldcInt hx hown (mvT hZ (hw _ (List.mem_of_getElem? (i := 6) rfl))) (g := (mkF m 186 #[.val (.int u)] [(.int u)])) rfl (hb hby d2_186))
                                                          show Gl _ _ _ _ (s₁.setTop (mkF m 188 #[.val (.int u)] [(.int (65536 : Int32)), (.int u)]))
                                                          by_cases hc29 : u < (65536 : Int32)
                                                          · refine Gl.go ?_ (fun t k => XS.icmpYes X0.here hx rfl (pc0 := 188) (pc' := 201) rfl (hb hby d2_188) rfl (tlt hc29).1 (by decide) (by decide) k)
                                                            show Gl _ _ _ _ (s₁.setTop (mkF m 201 #[.val (.int u)] []))
                                                            refine Gl.go ?_ (fun t k => XS.iconst X0.here hx rfl (hb hby d2_201) k)
                                                            show Gl _ _ _ _ (s₁.setTop (mkF m 202 #[.val (.int u)] [(.int (0 : Int32))]))
                                                            obtain ⟨fs, hr, hrun, hended, hW, hsame⟩ := X0.leave (v := some (.int (0 : Int32))) (fun h => by rw [Bd.returns] at h; cases h) (BodyLoose.notSynchronized Bd)
                                                            exact Gl.mk ⟨_, _, retN X0 hx (t := .boolean) Bd.returns (by simp) (hb hby d2_202) hr, hrun, hended, _, _, rfl, ⟨congrArg (fun z => some (Value.int z)) ((if_neg hc1).trans ((if_neg hc2).trans ((if_pos hc3).trans ((if_neg hc4).trans ((if_neg hc5).trans ((if_pos hc6).trans ((if_neg hc7).trans ((if_pos hc8).trans ((if_neg hc9).trans ((if_pos hc10).trans ((if_neg hc11).trans ((if_pos hc12).trans ((if_neg hc13).trans ((if_pos hc14).trans ((if_neg hc15).trans ((if_pos hc16).trans ((if_neg hc17).trans ((if_pos hc18).trans ((if_neg hc19).trans ((if_pos hc20).trans ((if_neg hc21).trans ((if_pos hc22).trans ((if_neg hc23).trans ((if_pos hc24).trans ((if_neg hc25).trans ((if_pos hc26).trans ((if_neg hc27).trans ((if_pos hc28).trans ((if_pos hc29).trans (rfl)))))))))))))))))))))))))))))).symm, rfl, e0⟩, ⟨_, rfl⟩, hW, hsame.mono (by decide) (by decide)⟩
                                                          · refine Gl.go ?_ (fun t k => XS.icmpNo X0.here hx rfl (hb hby d2_188) rfl (flt hc29).1 k)
                                                            show Gl _ _ _ _ (s₁.setTop (mkF m 191 #[.val (.int u)] []))
                                                            refine Gl.go ?_ (fun t k => XS.iloadN X0.here hx rfl (hb hby d2_191) rfl k)
                                                            show Gl _ _ _ _ (s₁.setTop (mkF m 192 #[.val (.int u)] [(.int u)]))
                                                            refine Gl.go ?_ (X0.ldcInt hx hown (mvT hZ (hw _ (List.mem_of_getElem? (i := 7) rfl))) (g := (mkF m 192 #[.val (.int u)] [(.int u)])) rfl (hb hby d2_192))
                                                            show Gl _ _ _ _ (s₁.setTop (mkF m 194 #[.val (.int u)] [(.int (983039 : Int32)), (.int u)]))
                                                            by_cases hc30 : (983039 : Int32) < u
                                                            · refine Gl.go ?_ (fun t k => XS.icmpYes X0.here hx rfl (pc0 := 194) (pc' := 201) rfl (hb hby d2_194) rfl (tlt hc30).2.2.1 (by decide) (by decide) k)
                                                              show Gl _ _ _ _ (s₁.setTop (mkF m 201 #[.val (.int u)] []))
                                                              refine Gl.go ?_ (fun t k => XS.iconst X0.here hx rfl (hb hby d2_201) k)
                                                              show Gl _ _ _ _ (s₁.setTop (mkF m 202 #[.val (.int u)] [(.int (0 : Int32))]))
                                                              obtain ⟨fs, hr, hrun, hended, hW, hsame⟩ := X0.leave (v := some (.int (0 : Int32))) (fun h => by rw [Bd.returns] at h; cases h) (BodyLoose.notSynchronized Bd)
                                                              exact Gl.mk ⟨_, _, retN X0 hx (t := .boolean) Bd.returns (by simp) (hb hby d2_202) hr, hrun, hended, _, _, rfl, ⟨congrArg (fun z => some (Value.int z)) ((if_neg hc1).trans ((if_neg hc2).trans ((if_pos hc3).trans ((if_neg hc4).trans ((if_neg hc5).trans ((if_pos hc6).trans ((if_neg hc7).trans ((if_pos hc8).trans ((if_neg hc9).trans ((if_pos hc10).trans ((if_neg hc11).trans ((if_pos hc12).trans ((if_neg hc13).trans ((if_pos hc14).trans ((if_neg hc15).trans ((if_pos hc16).trans ((if_neg hc17).trans ((if_pos hc18).trans ((if_neg hc19).trans ((if_pos hc20).trans ((if_neg hc21).trans ((if_pos hc22).trans ((if_neg hc23).trans ((if_pos hc24).trans ((if_neg hc25).trans ((if_pos hc26).trans ((if_neg hc27).trans ((if_pos hc28).trans ((if_neg hc29).trans ((if_pos hc30).trans (rfl))))))))))))))))))))))))))))))).symm, rfl, e0⟩, ⟨_, rfl⟩, hW, hsame.mono (by decide) (by decide)⟩
                                                            · refine Gl.go ?_ (fun t k => XS.icmpNo X0.here hx rfl (hb hby d2_194) rfl (flt hc30).2.2.1 k)
                                                              show Gl _ _ _ _ (s₁.setTop (mkF m 197 #[.val (.int u)] []))
                                                              refine Gl.go ?_ (fun t k => XS.iconst X0.here hx rfl (hb hby d2_197) k)
                                                              show Gl _ _ _ _ (s₁.setTop (mkF m 198 #[.val (.int u)] [(.int (1 : Int32))]))
                                                              refine Gl.go ?_ (fun t k => XS.goto X0.here hx rfl (pc0 := 198) (pc' := 202) rfl (hb hby d2_198) (by decide) (by decide) k)
                                                              show Gl _ _ _ _ (s₁.setTop (mkF m 202 #[.val (.int u)] [(.int (1 : Int32))]))
                                                              obtain ⟨fs, hr, hrun, hended, hW, hsame⟩ := X0.leave (v := some (.int (1 : Int32))) (fun h => by rw [Bd.returns] at h; cases h) (BodyLoose.notSynchronized Bd)
                                                              exact Gl.mk ⟨_, _, retN X0 hx (t := .boolean) Bd.returns (by simp) (hb hby d2_202) hr, hrun, hended, _, _, rfl, ⟨congrArg (fun z => some (Value.int z)) ((if_neg hc1).trans ((if_neg hc2).trans ((if_pos hc3).trans ((if_neg hc4).trans ((if_neg hc5).trans ((if_pos hc6).trans ((if_neg hc7).trans ((if_pos hc8).trans ((if_neg hc9).trans ((if_pos hc10).trans ((if_neg hc11).trans ((if_pos hc12).trans ((if_neg hc13).trans ((if_pos hc14).trans ((if_neg hc15).trans ((if_pos hc16).trans ((if_neg hc17).trans ((if_pos hc18).trans ((if_neg hc19).trans ((if_pos hc20).trans ((if_neg hc21).trans ((if_pos hc22).trans ((if_neg hc23).trans ((if_pos hc24).trans ((if_neg hc25).trans ((if_pos hc26).trans ((if_neg hc27).trans ((if_pos hc28).trans ((if_neg hc29).trans ((if_neg hc30).trans (rfl))))))))))))))))))))))))))))))).symm, rfl, e0⟩, ⟨_, rfl⟩, hW, hsame.mono (by decide) (by decide)⟩
                                                        · refine Gl.go ?_ (fun t k => XS.icmpYes X0.here hx rfl (pc0 := 182) (pc' := 197) rfl (hb hby d2_182) rfl (flt hc28).2.2.2 (by decide) (by decide) k)
                                                          show Gl _ _ _ _ (s₁.setTop (mkF m 197 #[.val (.int u)] []))
                                                          refine Gl.go ?_ (fun t k => XS.iconst X0.here hx rfl (hb hby d2_197) k)
                                                          show Gl _ _ _ _ (s₁.setTop (mkF m 198 #[.val (.int u)] [(.int (1 : Int32))]))
                                                          refine Gl.go ?_ (fun t k => XS.goto X0.here hx rfl (pc0 := 198) (pc' := 202) rfl (hb hby d2_198) (by decide) (by decide) k)
                                                          show Gl _ _ _ _ (s₁.setTop (mkF m 202 #[.val (.int u)] [(.int (1 : Int32))]))
                                                          obtain ⟨fs, hr, hrun, hended, hW, hsame⟩ := X0.leave (v := some (.int (1 : Int32))) (fun h => by rw [Bd.returns] at h; cases h) (BodyLoose.notSynchronized Bd)
                                                          exact Gl.mk ⟨_, _, retN X0 hx (t := .boolean) Bd.returns (by simp) (hb hby d2_202) hr, hrun, hended, _, _, rfl, ⟨congrArg (fun z => some (Value.int z)) ((if_neg hc1).trans ((if_neg hc2).trans ((if_pos hc3).trans ((if_neg hc4).trans ((if_neg hc5).trans ((if_pos hc6).trans ((if_neg hc7).trans ((if_pos hc8).trans ((if_neg hc9).trans ((if_pos hc10).trans ((if_neg hc11).trans ((if_pos hc12).trans ((if_neg hc13).trans ((if_pos hc14).trans ((if_neg hc15).trans ((if_pos hc16).trans ((if_neg hc17).trans ((if_pos hc18).trans ((if_neg hc19).trans ((if_pos hc20).trans ((if_neg hc21).trans ((if_pos hc22).trans ((if_neg hc23).trans ((if_pos hc24).trans ((if_neg hc25).trans ((if_pos hc26).trans ((if_neg hc27).trans ((if_neg hc28).trans (rfl))))))))))))))))))))))))))))).symm, rfl, e0⟩, ⟨_, rfl⟩, hW, hsame.mono (by decide) (by decide)⟩
                                                    · refine Gl.go ?_ (fun t k => XS.icmpYes X0.here hx rfl (pc0 := 170) (pc' := 197) rfl (hb hby d2_170) rfl (flt hc26).2.2.2 (by decide) (by decide) k)
                                                      show Gl _ _ _ _ (s₁.setTop (mkF m 197 #[.val (.int u)] []))
                                                      refine Gl.go ?_ (fun t k => XS.iconst X0.here hx rfl (hb hby d2_197) k)
                                                      show Gl _ _ _ _ (s₁.setTop (mkF m 198 #[.val (.int u)] [(.int (1 : Int32))]))
                                                      refine Gl.go ?_ (fun t k => XS.goto X0.here hx rfl (pc0 := 198) (pc' := 202) rfl (hb hby d2_198) (by decide) (by decide) k)
                                                      show Gl _ _ _ _ (s₁.setTop (mkF m 202 #[.val (.int u)] [(.int (1 : Int32))]))
                                                      obtain ⟨fs, hr, hrun, hended, hW, hsame⟩ := X0.leave (v := some (.int (1 : Int32))) (fun h => by rw [Bd.returns] at h; cases h) (BodyLoose.notSynchronized Bd)
                                                      exact Gl.mk ⟨_, _, retN X0 hx (t := .boolean) Bd.returns (by simp) (hb hby d2_202) hr, hrun, hended, _, _, rfl, ⟨congrArg (fun z => some (Value.int z)) ((if_neg hc1).trans ((if_neg hc2).trans ((if_pos hc3).trans ((if_neg hc4).trans ((if_neg hc5).trans ((if_pos hc6).trans ((if_neg hc7).trans ((if_pos hc8).trans ((if_neg hc9).trans ((if_pos hc10).trans ((if_neg hc11).trans ((if_pos hc12).trans ((if_neg hc13).trans ((if_pos hc14).trans ((if_neg hc15).trans ((if_pos hc16).trans ((if_neg hc17).trans ((if_pos hc18).trans ((if_neg hc19).trans ((if_pos hc20).trans ((if_neg hc21).trans ((if_pos hc22).trans ((if_neg hc23).trans ((if_pos hc24).trans ((if_neg hc25).trans ((if_neg hc26).trans (rfl))))))))))))))))))))))))))).symm, rfl, e0⟩, ⟨_, rfl⟩, hW, hsame.mono (by decide) (by decide)⟩
                                                · refine Gl.go ?_ (fun t k => XS.icmpYes X0.here hx rfl (pc0 := 158) (pc' := 197) rfl (hb hby d2_158) rfl (flt hc24).2.2.2 (by decide) (by decide) k)
                                                  show Gl _ _ _ _ (s₁.setTop (mkF m 197 #[.val (.int u)] []))
                                                  refine Gl.go ?_ (fun t k => XS.iconst X0.here hx rfl (hb hby d2_197) k)
                                                  show Gl _ _ _ _ (s₁.setTop (mkF m 198 #[.val (.int u)] [(.int (1 : Int32))]))
                                                  refine Gl.go ?_ (fun t k => XS.goto X0.here hx rfl (pc0 := 198) (pc' := 202) rfl (hb hby d2_198) (by decide) (by decide) k)
                                                  show Gl _ _ _ _ (s₁.setTop (mkF m 202 #[.val (.int u)] [(.int (1 : Int32))]))
                                                  obtain ⟨fs, hr, hrun, hended, hW, hsame⟩ := X0.leave (v := some (.int (1 : Int32))) (fun h => by rw [Bd.returns] at h; cases h) (BodyLoose.notSynchronized Bd)
                                                  exact Gl.mk ⟨_, _, retN X0 hx (t := .boolean) Bd.returns (by simp) (hb hby d2_202) hr, hrun, hended, _, _, rfl, ⟨congrArg (fun z => some (Value.int z)) ((if_neg hc1).trans ((if_neg hc2).trans ((if_pos hc3).trans ((if_neg hc4).trans ((if_neg hc5).trans ((if_pos hc6).trans ((if_neg hc7).trans ((if_pos hc8).trans ((if_neg hc9).trans ((if_pos hc10).trans ((if_neg hc11).trans ((if_pos hc12).trans ((if_neg hc13).trans ((if_pos hc14).trans ((if_neg hc15).trans ((if_pos hc16).trans ((if_neg hc17).trans ((if_pos hc18).trans ((if_neg hc19).trans ((if_pos hc20).trans ((if_neg hc21).trans ((if_pos hc22).trans ((if_neg hc23).trans ((if_neg hc24).trans (rfl))))))))))))))))))))))))).symm, rfl, e0⟩, ⟨_, rfl⟩, hW, hsame.mono (by decide) (by decide)⟩
                                            · refine Gl.go ?_ (fun t k => XS.icmpYes X0.here hx rfl (pc0 := 145) (pc' := 197) rfl (hb hby d2_145) rfl (flt hc22).2.2.2 (by decide) (by decide) k)
                                              show Gl _ _ _ _ (s₁.setTop (mkF m 197 #[.val (.int u)] []))
                                              refine Gl.go ?_ (fun t k => XS.iconst X0.here hx rfl (hb hby d2_197) k)
                                              show Gl _ _ _ _ (s₁.setTop (mkF m 198 #[.val (.int u)] [(.int (1 : Int32))]))
                                              refine Gl.go ?_ (fun t k => XS.goto X0.here hx rfl (pc0 := 198) (pc' := 202) rfl (hb hby d2_198) (by decide) (by decide) k)
                                              show Gl _ _ _ _ (s₁.setTop (mkF m 202 #[.val (.int u)] [(.int (1 : Int32))]))
                                              obtain ⟨fs, hr, hrun, hended, hW, hsame⟩ := X0.leave (v := some (.int (1 : Int32))) (fun h => by rw [Bd.returns] at h; cases h) (BodyLoose.notSynchronized Bd)
                                              exact Gl.mk ⟨_, _, retN X0 hx (t := .boolean) Bd.returns (by simp) (hb hby d2_202) hr, hrun, hended, _, _, rfl, ⟨congrArg (fun z => some (Value.int z)) ((if_neg hc1).trans ((if_neg hc2).trans ((if_pos hc3).trans ((if_neg hc4).trans ((if_neg hc5).trans ((if_pos hc6).trans ((if_neg hc7).trans ((if_pos hc8).trans ((if_neg hc9).trans ((if_pos hc10).trans ((if_neg hc11).trans ((if_pos hc12).trans ((if_neg hc13).trans ((if_pos hc14).trans ((if_neg hc15).trans ((if_pos hc16).trans ((if_neg hc17).trans ((if_pos hc18).trans ((if_neg hc19).trans ((if_pos hc20).trans ((if_neg hc21).trans ((if_neg hc22).trans (rfl))))))))))))))))))))))).symm, rfl, e0⟩, ⟨_, rfl⟩, hW, hsame.mono (by decide) (by decide)⟩
                                        · refine Gl.go ?_ (fun t k => XS.icmpYes X0.here hx rfl (pc0 := 131) (pc' := 197) rfl (hb hby d2_131) rfl (flt hc20).2.2.2 (by decide) (by decide) k)
                                          show Gl _ _ _ _ (s₁.setTop (mkF m 197 #[.val (.int u)] []))
                                          refine Gl.go ?_ (fun t k => XS.iconst X0.here hx rfl (hb hby d2_197) k)
                                          show Gl _ _ _ _ (s₁.setTop (mkF m 198 #[.val (.int u)] [(.int (1 : Int32))]))
                                          refine Gl.go ?_ (fun t k => XS.goto X0.here hx rfl (pc0 := 198) (pc' := 202) rfl (hb hby d2_198) (by decide) (by decide) k)
                                          show Gl _ _ _ _ (s₁.setTop (mkF m 202 #[.val (.int u)] [(.int (1 : Int32))]))
                                          obtain ⟨fs, hr, hrun, hended, hW, hsame⟩ := X0.leave (v := some (.int (1 : Int32))) (fun h => by rw [Bd.returns] at h; cases h) (BodyLoose.notSynchronized Bd)
                                          exact Gl.mk ⟨_, _, retN X0 hx (t := .boolean) Bd.returns (by simp) (hb hby d2_202) hr, hrun, hended, _, _, rfl, ⟨congrArg (fun z => some (Value.int z)) ((if_neg hc1).trans ((if_neg hc2).trans ((if_pos hc3).trans ((if_neg hc4).trans ((if_neg hc5).trans ((if_pos hc6).trans ((if_neg hc7).trans ((if_pos hc8).trans ((if_neg hc9).trans ((if_pos hc10).trans ((if_neg hc11).trans ((if_pos hc12).trans ((if_neg hc13).trans ((if_pos hc14).trans ((if_neg hc15).trans ((if_pos hc16).trans ((if_neg hc17).trans ((if_pos hc18).trans ((if_neg hc19).trans ((if_neg hc20).trans (rfl))))))))))))))))))))).symm, rfl, e0⟩, ⟨_, rfl⟩, hW, hsame.mono (by decide) (by decide)⟩
                                    · refine Gl.go ?_ (fun t k => XS.icmpYes X0.here hx rfl (pc0 := 117) (pc' := 197) rfl (hb hby d2_117) rfl (flt hc18).2.2.2 (by decide) (by decide) k)
                                      show Gl _ _ _ _ (s₁.setTop (mkF m 197 #[.val (.int u)] []))
                                      refine Gl.go ?_ (fun t k => XS.iconst X0.here hx rfl (hb hby d2_197) k)
                                      show Gl _ _ _ _ (s₁.setTop (mkF m 198 #[.val (.int u)] [(.int (1 : Int32))]))
                                      refine Gl.go ?_ (fun t k => XS.goto X0.here hx rfl (pc0 := 198) (pc' := 202) rfl (hb hby d2_198) (by decide) (by decide) k)
                                      show Gl _ _ _ _ (s₁.setTop (mkF m 202 #[.val (.int u)] [(.int (1 : Int32))]))
                                      obtain ⟨fs, hr, hrun, hended, hW, hsame⟩ := X0.leave (v := some (.int (1 : Int32))) (fun h => by rw [Bd.returns] at h; cases h) (BodyLoose.notSynchronized Bd)
                                      exact Gl.mk ⟨_, _, retN X0 hx (t := .boolean) Bd.returns (by simp) (hb hby d2_202) hr, hrun, hended, _, _, rfl, ⟨congrArg (fun z => some (Value.int z)) ((if_neg hc1).trans ((if_neg hc2).trans ((if_pos hc3).trans ((if_neg hc4).trans ((if_neg hc5).trans ((if_pos hc6).trans ((if_neg hc7).trans ((if_pos hc8).trans ((if_neg hc9).trans ((if_pos hc10).trans ((if_neg hc11).trans ((if_pos hc12).trans ((if_neg hc13).trans ((if_pos hc14).trans ((if_neg hc15).trans ((if_pos hc16).trans ((if_neg hc17).trans ((if_neg hc18).trans (rfl))))))))))))))))))).symm, rfl, e0⟩, ⟨_, rfl⟩, hW, hsame.mono (by decide) (by decide)⟩
                                · refine Gl.go ?_ (fun t k => XS.icmpYes X0.here hx rfl (pc0 := 103) (pc' := 197) rfl (hb hby d2_103) rfl (flt hc16).2.2.2 (by decide) (by decide) k)
                                  show Gl _ _ _ _ (s₁.setTop (mkF m 197 #[.val (.int u)] []))
                                  refine Gl.go ?_ (fun t k => XS.iconst X0.here hx rfl (hb hby d2_197) k)
                                  show Gl _ _ _ _ (s₁.setTop (mkF m 198 #[.val (.int u)] [(.int (1 : Int32))]))
                                  refine Gl.go ?_ (fun t k => XS.goto X0.here hx rfl (pc0 := 198) (pc' := 202) rfl (hb hby d2_198) (by decide) (by decide) k)
                                  show Gl _ _ _ _ (s₁.setTop (mkF m 202 #[.val (.int u)] [(.int (1 : Int32))]))
                                  obtain ⟨fs, hr, hrun, hended, hW, hsame⟩ := X0.leave (v := some (.int (1 : Int32))) (fun h => by rw [Bd.returns] at h; cases h) (BodyLoose.notSynchronized Bd)
                                  exact Gl.mk ⟨_, _, retN X0 hx (t := .boolean) Bd.returns (by simp) (hb hby d2_202) hr, hrun, hended, _, _, rfl, ⟨congrArg (fun z => some (Value.int z)) ((if_neg hc1).trans ((if_neg hc2).trans ((if_pos hc3).trans ((if_neg hc4).trans ((if_neg hc5).trans ((if_pos hc6).trans ((if_neg hc7).trans ((if_pos hc8).trans ((if_neg hc9).trans ((if_pos hc10).trans ((if_neg hc11).trans ((if_pos hc12).trans ((if_neg hc13).trans ((if_pos hc14).trans ((if_neg hc15).trans ((if_neg hc16).trans (rfl))))))))))))))))).symm, rfl, e0⟩, ⟨_, rfl⟩, hW, hsame.mono (by decide) (by decide)⟩
                            · refine Gl.go ?_ (fun t k => XS.icmpYes X0.here hx rfl (pc0 := 89) (pc' := 197) rfl (hb hby d2_89) rfl (flt hc14).2.2.2 (by decide) (by decide) k)
                              show Gl _ _ _ _ (s₁.setTop (mkF m 197 #[.val (.int u)] []))
                              refine Gl.go ?_ (fun t k => XS.iconst X0.here hx rfl (hb hby d2_197) k)
                              show Gl _ _ _ _ (s₁.setTop (mkF m 198 #[.val (.int u)] [(.int (1 : Int32))]))
                              refine Gl.go ?_ (fun t k => XS.goto X0.here hx rfl (pc0 := 198) (pc' := 202) rfl (hb hby d2_198) (by decide) (by decide) k)
                              show Gl _ _ _ _ (s₁.setTop (mkF m 202 #[.val (.int u)] [(.int (1 : Int32))]))
                              obtain ⟨fs, hr, hrun, hended, hW, hsame⟩ := X0.leave (v := some (.int (1 : Int32))) (fun h => by rw [Bd.returns] at h; cases h) (BodyLoose.notSynchronized Bd)
                              exact Gl.mk ⟨_, _, retN X0 hx (t := .boolean) Bd.returns (by simp) (hb hby d2_202) hr, hrun, hended, _, _, rfl, ⟨congrArg (fun z => some (Value.int z)) ((if_neg hc1).trans ((if_neg hc2).trans ((if_pos hc3).trans ((if_neg hc4).trans ((if_neg hc5).trans ((if_pos hc6).trans ((if_neg hc7).trans ((if_pos hc8).trans ((if_neg hc9).trans ((if_pos hc10).trans ((if_neg hc11).trans ((if_pos hc12).trans ((if_neg hc13).trans ((if_neg hc14).trans (rfl))))))))))))))).symm, rfl, e0⟩, ⟨_, rfl⟩, hW, hsame.mono (by decide) (by decide)⟩
                        · refine Gl.go ?_ (fun t k => XS.icmpYes X0.here hx rfl (pc0 := 75) (pc' := 197) rfl (hb hby d2_75) rfl (flt hc12).2.2.2 (by decide) (by decide) k)
                          show Gl _ _ _ _ (s₁.setTop (mkF m 197 #[.val (.int u)] []))
                          refine Gl.go ?_ (fun t k => XS.iconst X0.here hx rfl (hb hby d2_197) k)
                          show Gl _ _ _ _ (s₁.setTop (mkF m 198 #[.val (.int u)] [(.int (1 : Int32))]))
                          refine Gl.go ?_ (fun t k => XS.goto X0.here hx rfl (pc0 := 198) (pc' := 202) rfl (hb hby d2_198) (by decide) (by decide) k)
                          show Gl _ _ _ _ (s₁.setTop (mkF m 202 #[.val (.int u)] [(.int (1 : Int32))]))
                          obtain ⟨fs, hr, hrun, hended, hW, hsame⟩ := X0.leave (v := some (.int (1 : Int32))) (fun h => by rw [Bd.returns] at h; cases h) (BodyLoose.notSynchronized Bd)
                          exact Gl.mk ⟨_, _, retN X0 hx (t := .boolean) Bd.returns (by simp) (hb hby d2_202) hr, hrun, hended, _, _, rfl, ⟨congrArg (fun z => some (Value.int z)) ((if_neg hc1).trans ((if_neg hc2).trans ((if_pos hc3).trans ((if_neg hc4).trans ((if_neg hc5).trans ((if_pos hc6).trans ((if_neg hc7).trans ((if_pos hc8).trans ((if_neg hc9).trans ((if_pos hc10).trans ((if_neg hc11).trans ((if_neg hc12).trans (rfl))))))))))))).symm, rfl, e0⟩, ⟨_, rfl⟩, hW, hsame.mono (by decide) (by decide)⟩
                    · refine Gl.go ?_ (fun t k => XS.icmpYes X0.here hx rfl (pc0 := 61) (pc' := 197) rfl (hb hby d2_61) rfl (flt hc10).2.2.2 (by decide) (by decide) k)
                      show Gl _ _ _ _ (s₁.setTop (mkF m 197 #[.val (.int u)] []))
                      refine Gl.go ?_ (fun t k => XS.iconst X0.here hx rfl (hb hby d2_197) k)
                      show Gl _ _ _ _ (s₁.setTop (mkF m 198 #[.val (.int u)] [(.int (1 : Int32))]))
                      refine Gl.go ?_ (fun t k => XS.goto X0.here hx rfl (pc0 := 198) (pc' := 202) rfl (hb hby d2_198) (by decide) (by decide) k)
                      show Gl _ _ _ _ (s₁.setTop (mkF m 202 #[.val (.int u)] [(.int (1 : Int32))]))
                      obtain ⟨fs, hr, hrun, hended, hW, hsame⟩ := X0.leave (v := some (.int (1 : Int32))) (fun h => by rw [Bd.returns] at h; cases h) (BodyLoose.notSynchronized Bd)
                      exact Gl.mk ⟨_, _, retN X0 hx (t := .boolean) Bd.returns (by simp) (hb hby d2_202) hr, hrun, hended, _, _, rfl, ⟨congrArg (fun z => some (Value.int z)) ((if_neg hc1).trans ((if_neg hc2).trans ((if_pos hc3).trans ((if_neg hc4).trans ((if_neg hc5).trans ((if_pos hc6).trans ((if_neg hc7).trans ((if_pos hc8).trans ((if_neg hc9).trans ((if_neg hc10).trans (rfl))))))))))).symm, rfl, e0⟩, ⟨_, rfl⟩, hW, hsame.mono (by decide) (by decide)⟩
                · refine Gl.go ?_ (fun t k => XS.icmpYes X0.here hx rfl (pc0 := 47) (pc' := 197) rfl (hb hby d2_47) rfl (flt hc8).2.2.2 (by decide) (by decide) k)
                  show Gl _ _ _ _ (s₁.setTop (mkF m 197 #[.val (.int u)] []))
                  refine Gl.go ?_ (fun t k => XS.iconst X0.here hx rfl (hb hby d2_197) k)
                  show Gl _ _ _ _ (s₁.setTop (mkF m 198 #[.val (.int u)] [(.int (1 : Int32))]))
                  refine Gl.go ?_ (fun t k => XS.goto X0.here hx rfl (pc0 := 198) (pc' := 202) rfl (hb hby d2_198) (by decide) (by decide) k)
                  show Gl _ _ _ _ (s₁.setTop (mkF m 202 #[.val (.int u)] [(.int (1 : Int32))]))
                  obtain ⟨fs, hr, hrun, hended, hW, hsame⟩ := X0.leave (v := some (.int (1 : Int32))) (fun h => by rw [Bd.returns] at h; cases h) (BodyLoose.notSynchronized Bd)
                  exact Gl.mk ⟨_, _, retN X0 hx (t := .boolean) Bd.returns (by simp) (hb hby d2_202) hr, hrun, hended, _, _, rfl, ⟨congrArg (fun z => some (Value.int z)) ((if_neg hc1).trans ((if_neg hc2).trans ((if_pos hc3).trans ((if_neg hc4).trans ((if_neg hc5).trans ((if_pos hc6).trans ((if_neg hc7).trans ((if_neg hc8).trans (rfl))))))))).symm, rfl, e0⟩, ⟨_, rfl⟩, hW, hsame.mono (by decide) (by decide)⟩
            · refine Gl.go ?_ (fun t k => XS.icmpYes X0.here hx rfl (pc0 := 33) (pc' := 197) rfl (hb hby d2_33) rfl (flt hc6).2.2.2 (by decide) (by decide) k)
              show Gl _ _ _ _ (s₁.setTop (mkF m 197 #[.val (.int u)] []))
              refine Gl.go ?_ (fun t k => XS.iconst X0.here hx rfl (hb hby d2_197) k)
              show Gl _ _ _ _ (s₁.setTop (mkF m 198 #[.val (.int u)] [(.int (1 : Int32))]))
              refine Gl.go ?_ (fun t k => XS.goto X0.here hx rfl (pc0 := 198) (pc' := 202) rfl (hb hby d2_198) (by decide) (by decide) k)
              show Gl _ _ _ _ (s₁.setTop (mkF m 202 #[.val (.int u)] [(.int (1 : Int32))]))
              obtain ⟨fs, hr, hrun, hended, hW, hsame⟩ := X0.leave (v := some (.int (1 : Int32))) (fun h => by rw [Bd.returns] at h; cases h) (BodyLoose.notSynchronized Bd)
              exact Gl.mk ⟨_, _, retN X0 hx (t := .boolean) Bd.returns (by simp) (hb hby d2_202) hr, hrun, hended, _, _, rfl, ⟨congrArg (fun z => some (Value.int z)) ((if_neg hc1).trans ((if_neg hc2).trans ((if_pos hc3).trans ((if_neg hc4).trans ((if_neg hc5).trans ((if_neg hc6).trans (rfl))))))).symm, rfl, e0⟩, ⟨_, rfl⟩, hW, hsame.mono (by decide) (by decide)⟩
      · refine Gl.go ?_ (fun t k => XS.icmpYes X0.here hx rfl (pc0 := 15) (pc' := 197) rfl (hb hby d2_15) rfl (flt hc3).2.2.2 (by decide) (by decide) k)
        show Gl _ _ _ _ (s₁.setTop (mkF m 197 #[.val (.int u)] []))
        refine Gl.go ?_ (fun t k => XS.iconst X0.here hx rfl (hb hby d2_197) k)
        show Gl _ _ _ _ (s₁.setTop (mkF m 198 #[.val (.int u)] [(.int (1 : Int32))]))
        refine Gl.go ?_ (fun t k => XS.goto X0.here hx rfl (pc0 := 198) (pc' := 202) rfl (hb hby d2_198) (by decide) (by decide) k)
        show Gl _ _ _ _ (s₁.setTop (mkF m 202 #[.val (.int u)] [(.int (1 : Int32))]))
        obtain ⟨fs, hr, hrun, hended, hW, hsame⟩ := X0.leave (v := some (.int (1 : Int32))) (fun h => by rw [Bd.returns] at h; cases h) (BodyLoose.notSynchronized Bd)
        exact Gl.mk ⟨_, _, retN X0 hx (t := .boolean) Bd.returns (by simp) (hb hby d2_202) hr, hrun, hended, _, _, rfl, ⟨congrArg (fun z => some (Value.int z)) ((if_neg hc1).trans ((if_neg hc2).trans ((if_neg hc3).trans (rfl)))).symm, rfl, e0⟩, ⟨_, rfl⟩, hW, hsame.mono (by decide) (by decide)⟩
theorem d1_0 : decode prog_185_method_2_code 0 = .ok (.iconst 0, 1) := by decide +kernel
theorem d1_1 : decode prog_185_method_2_code 1 = .ok (.istore_n 1, 1) := by decide +kernel
theorem d1_2 : decode prog_185_method_2_code 2 = .ok (.iload_n 1, 1) := by decide +kernel
theorem d1_3 : decode prog_185_method_2_code 3 = .ok (.getstatic 7, 3) := by decide +kernel
theorem d1_6 : decode prog_185_method_2_code 6 = .ok (.arraylength, 1) := by decide +kernel
theorem d1_7 : decode prog_185_method_2_code 7 = .ok (.if_icmp .ge 33, 3) := by decide +kernel
theorem d1_10 : decode prog_185_method_2_code 10 = .ok (.iload_n 0, 1) := by decide +kernel
theorem d1_11 : decode prog_185_method_2_code 11 = .ok (.getstatic 7, 3) := by decide +kernel
theorem d1_14 : decode prog_185_method_2_code 14 = .ok (.iload_n 1, 1) := by decide +kernel
theorem d1_15 : decode prog_185_method_2_code 15 = .ok (.iaload, 1) := by decide +kernel
theorem d1_16 : decode prog_185_method_2_code 16 = .ok (.if_icmp .ge 5, 3) := by decide +kernel
theorem d1_19 : decode prog_185_method_2_code 19 = .ok (.iconst 0, 1) := by decide +kernel
theorem d1_20 : decode prog_185_method_2_code 20 = .ok (.ireturn, 1) := by decide +kernel
theorem d1_21 : decode prog_185_method_2_code 21 = .ok (.iload_n 0, 1) := by decide +kernel
theorem d1_22 : decode prog_185_method_2_code 22 = .ok (.getstatic 7, 3) := by decide +kernel
theorem d1_25 : decode prog_185_method_2_code 25 = .ok (.iload_n 1, 1) := by decide +kernel
theorem d1_26 : decode prog_185_method_2_code 26 = .ok (.iconst 1, 1) := by decide +kernel
theorem d1_27 : decode prog_185_method_2_code 27 = .ok (.iadd, 1) := by decide +kernel
theorem d1_28 : decode prog_185_method_2_code 28 = .ok (.iaload, 1) := by decide +kernel
theorem d1_29 : decode prog_185_method_2_code 29 = .ok (.if_icmp .gt 5, 3) := by decide +kernel
theorem d1_32 : decode prog_185_method_2_code 32 = .ok (.iconst 1, 1) := by decide +kernel
theorem d1_33 : decode prog_185_method_2_code 33 = .ok (.ireturn, 1) := by decide +kernel
theorem d1_34 : decode prog_185_method_2_code 34 = .ok (.iinc 1 2, 3) := by decide +kernel
theorem d1_37 : decode prog_185_method_2_code 37 = .ok (.goto (-35), 3) := by decide +kernel
theorem d1_40 : decode prog_185_method_2_code 40 = .ok (.iconst 0, 1) := by decide +kernel
theorem d1_41 : decode prog_185_method_2_code 41 = .ok (.ireturn, 1) := by decide +kernel
theorem pn_1 : plainName "com/example/facet/facet/datatypes/XmlNames" = true := by first | (simp [plainName, overriddenIn]; done) | decide +kernel
def f_is (u : Int32) : Int32 := (if u < (58 : Int32) then (0 : Int32) else (if (58 : Int32) < u then (if u < (65 : Int32) then (0 : Int32) else (if (90 : Int32) < u then (if u < (95 : Int32) then (0 : Int32) else (if (95 : Int32) < u then (if u < (97 : Int32) then (0 : Int32) else (if (122 : Int32) < u then (if u < (192 : Int32) then (0 : Int32) else (if (214 : Int32) < u then (if u < (216 : Int32) then (0 : Int32) else (if (246 : Int32) < u then (if u < (248 : Int32) then (0 : Int32) else (if (767 : Int32) < u then (if u < (880 : Int32) then (0 : Int32) else (if (893 : Int32) < u then (if u < (895 : Int32) then (0 : Int32) else (if (8191 : Int32) < u then (if u < (8204 : Int32) then (0 : Int32) else (if (8205 : Int32) < u then (if u < (8304 : Int32) then (0 : Int32) else (if (8591 : Int32) < u then (if u < (11264 : Int32) then (0 : Int32) else (if (12271 : Int32) < u then (if u < (12289 : Int32) then (0 : Int32) else (if (55295 : Int32) < u then (if u < (63744 : Int32) then (0 : Int32) else (if (64975 : Int32) < u then (if u < (65008 : Int32) then (0 : Int32) else (if (65533 : Int32) < u then (if u < (65536 : Int32) then (0 : Int32) else (if (983039 : Int32) < u then (0 : Int32) else (1 : Int32))) else (1 : Int32))) else (1 : Int32))) else (1 : Int32))) else (1 : Int32))) else (1 : Int32))) else (1 : Int32))) else (1 : Int32))) else (1 : Int32))) else (1 : Int32))) else (1 : Int32))) else (1 : Int32))) else (1 : Int32))) else (1 : Int32))) else (1 : Int32))) else (1 : Int32)))
theorem ef_rm1 (m : MethodId) (x0 : Int32) : entryFrame m #[(.int x0)] 2 = mkF m 0 #[.val (.int x0), .unset] [] := by first | (simp [entryFrame, mkF, argsToLocals, Value.category]; done) | rfl
set_option maxRecDepth 65536 in
set_option maxHeartbeats 40000000 in
theorem rm1 (l : Launch) (Z : State) (a0 : Array Value) (hw : ∀ d ∈ tables_1, d.before a0 Z = true) (ws : List Jvm.Cond) (u : Int32) (aR : Addr) (h0 : Heap) (S_R : Sta Z h0 "com/example/facet/facet/datatypes/XmlNames" "NAME_START_RANGES" "[I" (.ref aR)) (B_R : BA Z h0 aR .int (32 : Int32) (nth own_R)) :
    MetFree l (⟨"com/example/facet/facet/datatypes/XmlNames", "isNameStartChar", "(I)Z"⟩ : MethodName) (head1 (Jvm.Cond.code (⟨"com/example/facet/facet/datatypes/XmlNames", "isNameStartChar", "(I)Z"⟩ : MethodName) prog_185_method_2_code 2 (some .boolean) :: ws) ({ frames := 0, cells := 0, slots := 0, locals := 0 } : Room)) (fun aQ U => aQ = #[(.int u)] ∧ Z.Warmed39 U.vm ∧ U.heap = h0) (fun _ _ _ _ _ => True) (fun _ U o U' => ∃ vQ LQ, o = .returned vQ ∧ PQ (some (.int (f_is u))) h0 vQ U'.heap LQ ∧ FrameEnd U o U' LQ ({ frames := 0, cells := 0, slots := 0, locals := 0 } : Room).cells ({ frames := 0, cells := 0, slots := 0, locals := 0 } : Room).slots) := by
  refine MetFree.of_bodySF (plainFor_of_name pn_1) hisR ?_
  intro p e s m args below meth c s₁ Bd hml0 hP hK
  obtain ⟨rfl, hZ, hh⟩ := hP
  have hx := Bd.exec
  have hby := Bd.bytes
  have hml : c.maxLocals = 2 := hml0
  have hown : s.vm.findClass "com/example/facet/facet/datatypes/XmlNames" = some m.cls := findClass_of_methodNamed Bd.named
  have hnm := (name_of_methodNamed Bd.named Bd.method).1
  have X0 : Stand p l e ({ frames := 0, cells := 0, slots := 0, locals := 0 } : Room) s m #[(.int u)] below meth c s₁ [] 0 0 := Stand.of_body Bd
  have e0 : s₁.heap = h0 := by rw [← hh, Bd.state]; rfl
  refine Gl.out ?_
  refine Gl.go ?_ (fun t k => castTop (ef_rm1 m u) k)
  show Gl _ _ _ _ (s₁.setTop (mkF m 0 #[.val (.int u), .unset] []))
  refine Gl.go ?_ (fun t k => XS.iconst X0.here hx rfl (hb hby d1_0) k)
  show Gl _ _ _ _ (s₁.setTop (mkF m 1 #[.val (.int u), .unset] [(.int (0 : Int32))]))
  refine Gl.go ?_ (fun t k => XS.istoreN X0.here hx rfl (hb hby d1_1) rfl (l' := #[.val (.int u), .val (.int (0 : Int32))]) rfl k)
  show Gl _ _ _ _ (s₁.setTop (mkF m 2 #[.val (.int u), .val (.int (0 : Int32))] []))
  refine Gl.go ?_ (fun t k => XS.iloadN X0.here hx rfl (hb hby d1_2) rfl k)
  show Gl _ _ _ _ (s₁.setTop (mkF m 3 #[.val (.int u), .val (.int (0 : Int32))] [(.int (0 : Int32))]))
  obtain ⟨T31, X31, e31, st31⟩ := getS2 X0 hx hZ hown (host := "") (Or.inl (hw _ (List.mem_of_getElem? (i := 14) rfl))) Via.refl e0 S_R (g := (mkF m 3 #[.val (.int u), .val (.int (0 : Int32))] [(.int (0 : Int32))])) rfl (hb hby d1_3)
  refine Gl.go ?_ st31
  show Gl _ _ _ _ (T31.setTop (mkF m 6 #[.val (.int u), .val (.int (0 : Int32))] [(.ref aR), (.int (0 : Int32))]))
  refine Gl.go ?_ (BA.len B_R X31 hx hZ e31 (g := (mkF m 6 #[.val (.int u), .val (.int (0 : Int32))] [(.ref aR), (.int (0 : Int32))])) rfl rfl (hb hby d1_6))
  show Gl _ _ _ _ (T31.setTop (mkF m 7 #[.val (.int u), .val (.int (0 : Int32))] [(.int (32 : Int32)), (.int (0 : Int32))]))
  refine Gl.go ?_ (fun t k => XS.icmpNo X31.here hx rfl (hb hby d1_7) rfl (tlt (by decide : (0 : Int32) < (32 : Int32))).2.1 k)
  show Gl _ _ _ _ (T31.setTop (mkF m 10 #[.val (.int u), .val (.int (0 : Int32))] []))
  refine Gl.go ?_ (fun t k => XS.iloadN X31.here hx rfl (hb hby d1_10) rfl k)
  show Gl _ _ _ _ (T31.setTop (mkF m 11 #[.val (.int u), .val (.int (0 : Int32))] [(.int u)]))
  obtain ⟨T32, X32, e32, st32⟩ := getS2 X31 hx hZ hown (host := "") (Or.inl (hw _ (List.mem_of_getElem? (i := 14) rfl))) Via.refl e31 S_R (g := (mkF m 11 #[.val (.int u), .val (.int (0 : Int32))] [(.int u)])) rfl (hb hby d1_11)
  refine Gl.go ?_ st32
  show Gl _ _ _ _ (T32.setTop (mkF m 14 #[.val (.int u), .val (.int (0 : Int32))] [(.ref aR), (.int u)]))
  refine Gl.go ?_ (fun t k => XS.iloadN X32.here hx rfl (hb hby d1_14) rfl k)
  show Gl _ _ _ _ (T32.setTop (mkF m 15 #[.val (.int u), .val (.int (0 : Int32))] [(.int (0 : Int32)), (.ref aR), (.int u)]))
  refine Gl.go ?_ (BA.rdI B_R X32 hx hZ e32 (by decide) (by decide) (g := (mkF m 15 #[.val (.int u), .val (.int (0 : Int32))] [(.int (0 : Int32)), (.ref aR), (.int u)])) rfl rfl (hb hby d1_15))
  show Gl _ _ _ _ (T32.setTop (mkF m 16 #[.val (.int u), .val (.int (0 : Int32))] [(.int (58 : Int32)), (.int u)]))
  by_cases hc33 : u < (58 : Int32)
  · refine Gl.go ?_ (fun t k => XS.icmpNo X32.here hx rfl (hb hby d1_16) rfl (tlt hc33).2.1 k)
    show Gl _ _ _ _ (T32.setTop (mkF m 19 #[.val (.int u), .val (.int (0 : Int32))] []))
    refine Gl.go ?_ (fun t k => XS.iconst X32.here hx rfl (hb hby d1_19) k)
    show Gl _ _ _ _ (T32.setTop (mkF m 20 #[.val (.int u), .val (.int (0 : Int32))] [(.int (0 : Int32))]))
    obtain ⟨fs, hr, hrun, hended, hW, hsame⟩ := X32.leave (v := some (.int (0 : Int32))) (fun h => by rw [Bd.returns] at h; cases h) (BodyLoose.notSynchronized Bd)
    exact Gl.mk ⟨_, _, retN X32 hx (t := .boolean) Bd.returns (by simp) (hb hby d1_20) hr, hrun, hended, _, _, rfl, ⟨congrArg (fun z => some (Value.int z)) ((if_pos hc33).trans (rfl)).symm, rfl, e32⟩, ⟨_, rfl⟩, hW, hsame.mono (by decide) (by decide)⟩
  · refine Gl.go ?_ (fun t k => XS.icmpYes X32.here hx rfl (pc0 := 16) (pc' := 21) rfl (hb hby d1_16) rfl (flt hc33).2.1 (by decide) (by decide) k)
    show Gl _ _ _ _ (T32.setTop (mkF m 21 #[.val (.int u), .val (.int (0 : Int32))] []))
    refine Gl.go ?_ (fun t k => XS.iloadN X32.here hx rfl (hb hby d1_21) rfl k)
    show Gl _ _ _ _ (T32.setTop (mkF m 22 #[.val (.int u), .val (.int (0 : Int32))] [(.int u)]))
    obtain ⟨T34, X34, e34, st34⟩ := getS2 X32 hx hZ hown (host := "") (Or.inl (hw _ (List.mem_of_getElem? (i := 14) rfl))) Via.refl e32 S_R (g := (mkF m 22 #[.val (.int u), .val (.int (0 : Int32))] [(.int u)])) rfl (hb hby d1_22)
    refine Gl.go ?_ st34
    show Gl _ _ _ _ (T34.setTop (mkF m 25 #[.val (.int u), .val (.int (0 : Int32))] [(.ref aR), (.int u)]))
    refine Gl.go ?_ (fun t k => XS.iloadN X34.here hx rfl (hb hby d1_25) rfl k)
    show Gl _ _ _ _ (T34.setTop (mkF m 26 #[.val (.int u), .val (.int (0 : Int32))] [(.int (0 : Int32)), (.ref aR), (.int u)]))
    refine Gl.go ?_ (fun t k => XS.iconst X34.here hx rfl (hb hby d1_26) k)
    show Gl _ _ _ _ (T34.setTop (mkF m 27 #[.val (.int u), .val (.int (0 : Int32))] [(.int (1 : Int32)), (.int (0 : Int32)), (.ref aR), (.int u)]))
    refine Gl.go ?_ (fun t k => XS.iadd X34.here hx rfl (hb hby d1_27) rfl k)
    show Gl _ _ _ _ (T34.setTop (mkF m 28 #[.val (.int u), .val (.int (0 : Int32))] [(.int (1 : Int32)), (.ref aR), (.int u)]))
    refine Gl.go ?_ (BA.rdI B_R X34 hx hZ e34 (by decide) (by decide) (g := (mkF m 28 #[.val (.int u), .val (.int (0 : Int32))] [(.int (1 : Int32)), (.ref aR), (.int u)])) rfl rfl (hb hby d1_28))
    show Gl _ _ _ _ (T34.setTop (mkF m 29 #[.val (.int u), .val (.int (0 : Int32))] [(.int (58 : Int32)), (.int u)]))
    by_cases hc35 : (58 : Int32) < u
    · refine Gl.go ?_ (fun t k => XS.icmpYes X34.here hx rfl (pc0 := 29) (pc' := 34) rfl (hb hby d1_29) rfl (tlt hc35).2.2.1 (by decide) (by decide) k)
      show Gl _ _ _ _ (T34.setTop (mkF m 34 #[.val (.int u), .val (.int (0 : Int32))] []))
      refine Gl.go ?_ (fun t k => XS.iinc X34.here hx rfl (hb hby d1_34) rfl (l' := #[.val (.int u), .val (.int (2 : Int32))]) rfl k)
      show Gl _ _ _ _ (T34.setTop (mkF m 37 #[.val (.int u), .val (.int (2 : Int32))] []))
      refine Gl.go ?_ (fun t k => XS.goto X34.here hx rfl (pc0 := 37) (pc' := 2) rfl (hb hby d1_37) (by decide) (by decide) k)
      show Gl _ _ _ _ (T34.setTop (mkF m 2 #[.val (.int u), .val (.int (2 : Int32))] []))
      refine Gl.go ?_ (fun t k => XS.iloadN X34.here hx rfl (hb hby d1_2) rfl k)
      show Gl _ _ _ _ (T34.setTop (mkF m 3 #[.val (.int u), .val (.int (2 : Int32))] [(.int (2 : Int32))]))
      obtain ⟨T36, X36, e36, st36⟩ := getS2 X34 hx hZ hown (host := "") (Or.inl (hw _ (List.mem_of_getElem? (i := 14) rfl))) Via.refl e34 S_R (g := (mkF m 3 #[.val (.int u), .val (.int (2 : Int32))] [(.int (2 : Int32))])) rfl (hb hby d1_3)
      refine Gl.go ?_ st36
      show Gl _ _ _ _ (T36.setTop (mkF m 6 #[.val (.int u), .val (.int (2 : Int32))] [(.ref aR), (.int (2 : Int32))]))
      refine Gl.go ?_ (BA.len B_R X36 hx hZ e36 (g := (mkF m 6 #[.val (.int u), .val (.int (2 : Int32))] [(.ref aR), (.int (2 : Int32))])) rfl rfl (hb hby d1_6))
      show Gl _ _ _ _ (T36.setTop (mkF m 7 #[.val (.int u), .val (.int (2 : Int32))] [(.int (32 : Int32)), (.int (2 : Int32))]))
      refine Gl.go ?_ (fun t k => XS.icmpNo X36.here hx rfl (hb hby d1_7) rfl (tlt (by decide : (2 : Int32) < (32 : Int32))).2.1 k)
      show Gl _ _ _ _ (T36.setTop (mkF m 10 #[.val (.int u), .val (.int (2 : Int32))] []))
      refine Gl.go ?_ (fun t k => XS.iloadN X36.here hx rfl (hb hby d1_10) rfl k)
      show Gl _ _ _ _ (T36.setTop (mkF m 11 #[.val (.int u), .val (.int (2 : Int32))] [(.int u)]))
      obtain ⟨T37, X37, e37, st37⟩ := getS2 X36 hx hZ hown (host := "") (Or.inl (hw _ (List.mem_of_getElem? (i := 14) rfl))) Via.refl e36 S_R (g := (mkF m 11 #[.val (.int u), .val (.int (2 : Int32))] [(.int u)])) rfl (hb hby d1_11)
      refine Gl.go ?_ st37
      show Gl _ _ _ _ (T37.setTop (mkF m 14 #[.val (.int u), .val (.int (2 : Int32))] [(.ref aR), (.int u)]))
      refine Gl.go ?_ (fun t k => XS.iloadN X37.here hx rfl (hb hby d1_14) rfl k)
      show Gl _ _ _ _ (T37.setTop (mkF m 15 #[.val (.int u), .val (.int (2 : Int32))] [(.int (2 : Int32)), (.ref aR), (.int u)]))
      refine Gl.go ?_ (BA.rdI B_R X37 hx hZ e37 (by decide) (by decide) (g := (mkF m 15 #[.val (.int u), .val (.int (2 : Int32))] [(.int (2 : Int32)), (.ref aR), (.int u)])) rfl rfl (hb hby d1_15))
      show Gl _ _ _ _ (T37.setTop (mkF m 16 #[.val (.int u), .val (.int (2 : Int32))] [(.int (65 : Int32)), (.int u)]))
      by_cases hc38 : u < (65 : Int32)
      · refine Gl.go ?_ (fun t k => XS.icmpNo X37.here hx rfl (hb hby d1_16) rfl (tlt hc38).2.1 k)
        show Gl _ _ _ _ (T37.setTop (mkF m 19 #[.val (.int u), .val (.int (2 : Int32))] []))
        refine Gl.go ?_ (fun t k => XS.iconst X37.here hx rfl (hb hby d1_19) k)
        show Gl _ _ _ _ (T37.setTop (mkF m 20 #[.val (.int u), .val (.int (2 : Int32))] [(.int (0 : Int32))]))
        obtain ⟨fs, hr, hrun, hended, hW, hsame⟩ := X37.leave (v := some (.int (0 : Int32))) (fun h => by rw [Bd.returns] at h; cases h) (BodyLoose.notSynchronized Bd)
        exact Gl.mk ⟨_, _, retN X37 hx (t := .boolean) Bd.returns (by simp) (hb hby d1_20) hr, hrun, hended, _, _, rfl, ⟨congrArg (fun z => some (Value.int z)) ((if_neg hc33).trans ((if_pos hc35).trans ((if_pos hc38).trans (rfl)))).symm, rfl, e37⟩, ⟨_, rfl⟩, hW, hsame.mono (by decide) (by decide)⟩
      · refine Gl.go ?_ (fun t k => XS.icmpYes X37.here hx rfl (pc0 := 16) (pc' := 21) rfl (hb hby d1_16) rfl (flt hc38).2.1 (by decide) (by decide) k)
        show Gl _ _ _ _ (T37.setTop (mkF m 21 #[.val (.int u), .val (.int (2 : Int32))] []))
        refine Gl.go ?_ (fun t k => XS.iloadN X37.here hx rfl (hb hby d1_21) rfl k)
        show Gl _ _ _ _ (T37.setTop (mkF m 22 #[.val (.int u), .val (.int (2 : Int32))] [(.int u)]))
        obtain ⟨T39, X39, e39, st39⟩ := getS2 X37 hx hZ hown (host := "") (Or.inl (hw _ (List.mem_of_getElem? (i := 14) rfl))) Via.refl e37 S_R (g := (mkF m 22 #[.val (.int u), .val (.int (2 : Int32))] [(.int u)])) rfl (hb hby d1_22)
        refine Gl.go ?_ st39
        show Gl _ _ _ _ (T39.setTop (mkF m 25 #[.val (.int u), .val (.int (2 : Int32))] [(.ref aR), (.int u)]))
        refine Gl.go ?_ (fun t k => XS.iloadN X39.here hx rfl (hb hby d1_25) rfl k)
        show Gl _ _ _ _ (T39.setTop (mkF m 26 #[.val (.int u), .val (.int (2 : Int32))] [(.int (2 : Int32)), (.ref aR), (.int u)]))
        refine Gl.go ?_ (fun t k => XS.iconst X39.here hx rfl (hb hby d1_26) k)
        show Gl _ _ _ _ (T39.setTop (mkF m 27 #[.val (.int u), .val (.int (2 : Int32))] [(.int (1 : Int32)), (.int (2 : Int32)), (.ref aR), (.int u)]))
        refine Gl.go ?_ (fun t k => XS.iadd X39.here hx rfl (hb hby d1_27) rfl k)
        show Gl _ _ _ _ (T39.setTop (mkF m 28 #[.val (.int u), .val (.int (2 : Int32))] [(.int (3 : Int32)), (.ref aR), (.int u)]))
        refine Gl.go ?_ (BA.rdI B_R X39 hx hZ e39 (by decide) (by decide) (g := (mkF m 28 #[.val (.int u), .val (.int (2 : Int32))] [(.int (3 : Int32)), (.ref aR), (.int u)])) rfl rfl (hb hby d1_28))
        show Gl _ _ _ _ (T39.setTop (mkF m 29 #[.val (.int u), .val (.int (2 : Int32))] [(.int (90 : Int32)), (.int u)]))
        by_cases hc40 : (90 : Int32) < u
        · refine Gl.go ?_ (fun t k => XS.icmpYes X39.here hx rfl (pc0 := 29) (pc' := 34) rfl (hb hby d1_29) rfl (tlt hc40).2.2.1 (by decide) (by decide) k)
          show Gl _ _ _ _ (T39.setTop (mkF m 34 #[.val (.int u), .val (.int (2 : Int32))] []))
          refine Gl.go ?_ (fun t k => XS.iinc X39.here hx rfl (hb hby d1_34) rfl (l' := #[.val (.int u), .val (.int (4 : Int32))]) rfl k)
          show Gl _ _ _ _ (T39.setTop (mkF m 37 #[.val (.int u), .val (.int (4 : Int32))] []))
          refine Gl.go ?_ (fun t k => XS.goto X39.here hx rfl (pc0 := 37) (pc' := 2) rfl (hb hby d1_37) (by decide) (by decide) k)
          show Gl _ _ _ _ (T39.setTop (mkF m 2 #[.val (.int u), .val (.int (4 : Int32))] []))
          refine Gl.go ?_ (fun t k => XS.iloadN X39.here hx rfl (hb hby d1_2) rfl k)
          show Gl _ _ _ _ (T39.setTop (mkF m 3 #[.val (.int u), .val (.int (4 : Int32))] [(.int (4 : Int32))]))
          obtain ⟨T41, X41, e41, st41⟩ := getS2 X39 hx hZ hown (host := "") (Or.inl (hw _ (List.mem_of_getElem? (i := 14) rfl))) Via.refl e39 S_R (g := (mkF m 3 #[.val (.int u), .val (.int (4 : Int32))] [(.int (4 : Int32))])) rfl (hb hby d1_3)
          refine Gl.go ?_ st41
          show Gl _ _ _ _ (T41.setTop (mkF m 6 #[.val (.int u), .val (.int (4 : Int32))] [(.ref aR), (.int (4 : Int32))]))
          refine Gl.go ?_ (BA.len B_R X41 hx hZ e41 (g := (mkF m 6 #[.val (.int u), .val (.int (4 : Int32))] [(.ref aR), (.int (4 : Int32))])) rfl rfl (hb hby d1_6))
          show Gl _ _ _ _ (T41.setTop (mkF m 7 #[.val (.int u), .val (.int (4 : Int32))] [(.int (32 : Int32)), (.int (4 : Int32))]))
          refine Gl.go ?_ (fun t k => XS.icmpNo X41.here hx rfl (hb hby d1_7) rfl (tlt (by decide : (4 : Int32) < (32 : Int32))).2.1 k)
          show Gl _ _ _ _ (T41.setTop (mkF m 10 #[.val (.int u), .val (.int (4 : Int32))] []))
          refine Gl.go ?_ (fun t k => XS.iloadN X41.here hx rfl (hb hby d1_10) rfl k)
          show Gl _ _ _ _ (T41.setTop (mkF m 11 #[.val (.int u), .val (.int (4 : Int32))] [(.int u)]))
          obtain ⟨T42, X42, e42, st42⟩ := getS2 X41 hx hZ hown (host := "") (Or.inl (hw _ (List.mem_of_getElem? (i := 14) rfl))) Via.refl e41 S_R (g := (mkF m 11 #[.val (.int u), .val (.int (4 : Int32))] [(.int u)])) rfl (hb hby d1_11)
          refine Gl.go ?_ st42
          show Gl _ _ _ _ (T42.setTop (mkF m 14 #[.val (.int u), .val (.int (4 : Int32))] [(.ref aR), (.int u)]))
          refine Gl.go ?_ (fun t k => XS.iloadN X42.here hx rfl (hb hby d1_14) rfl k)
          show Gl _ _ _ _ (T42.setTop (mkF m 15 #[.val (.int u), .val (.int (4 : Int32))] [(.int (4 : Int32)), (.ref aR), (.int u)]))
          refine Gl.go ?_ (BA.rdI B_R X42 hx hZ e42 (by decide) (by decide) (g := (mkF m 15 #[.val (.int u), .val (.int (4 : Int32))] [(.int (4 : Int32)), (.ref aR), (.int u)])) rfl rfl (hb hby d1_15))
          show Gl _ _ _ _ (T42.setTop (mkF m 16 #[.val (.int u), .val (.int (4 : Int32))] [(.int (95 : Int32)), (.int u)]))
          by_cases hc43 : u < (95 : Int32)
          · refine Gl.go ?_ (fun t k => XS.icmpNo X42.here hx rfl (hb hby d1_16) rfl (tlt hc43).2.1 k)
            show Gl _ _ _ _ (T42.setTop (mkF m 19 #[.val (.int u), .val (.int (4 : Int32))] []))
            refine Gl.go ?_ (fun t k => XS.iconst X42.here hx rfl (hb hby d1_19) k)
            show Gl _ _ _ _ (T42.setTop (mkF m 20 #[.val (.int u), .val (.int (4 : Int32))] [(.int (0 : Int32))]))
            obtain ⟨fs, hr, hrun, hended, hW, hsame⟩ := X42.leave (v := some (.int (0 : Int32))) (fun h => by rw [Bd.returns] at h; cases h) (BodyLoose.notSynchronized Bd)
            exact Gl.mk ⟨_, _, retN X42 hx (t := .boolean) Bd.returns (by simp) (hb hby d1_20) hr, hrun, hended, _, _, rfl, ⟨congrArg (fun z => some (Value.int z)) ((if_neg hc33).trans ((if_pos hc35).trans ((if_neg hc38).trans ((if_pos hc40).trans ((if_pos hc43).trans (rfl)))))).symm, rfl, e42⟩, ⟨_, rfl⟩, hW, hsame.mono (by decide) (by decide)⟩
          · refine Gl.go ?_ (fun t k => XS.icmpYes X42.here hx rfl (pc0 := 16) (pc' := 21) rfl (hb hby d1_16) rfl (flt hc43).2.1 (by decide) (by decide) k)
            show Gl _ _ _ _ (T42.setTop (mkF m 21 #[.val (.int u), .val (.int (4 : Int32))] []))
            refine Gl.go ?_ (fun t k => XS.iloadN X42.here hx rfl (hb hby d1_21) rfl k)
            show Gl _ _ _ _ (T42.setTop (mkF m 22 #[.val (.int u), .val (.int (4 : Int32))] [(.int u)]))
            obtain ⟨T44, X44, e44, st44⟩ := getS2 X42 hx hZ hown (host := "") (Or.inl (hw _ (List.mem_of_getElem? (i := 14) rfl))) Via.refl e42 S_R (g := (mkF m 22 #[.val (.int u), .val (.int (4 : Int32))] [(.int u)])) rfl (hb hby d1_22)
            refine Gl.go ?_ st44
            show Gl _ _ _ _ (T44.setTop (mkF m 25 #[.val (.int u), .val (.int (4 : Int32))] [(.ref aR), (.int u)]))
            refine Gl.go ?_ (fun t k => XS.iloadN X44.here hx rfl (hb hby d1_25) rfl k)
            show Gl _ _ _ _ (T44.setTop (mkF m 26 #[.val (.int u), .val (.int (4 : Int32))] [(.int (4 : Int32)), (.ref aR), (.int u)]))
            refine Gl.go ?_ (fun t k => XS.iconst X44.here hx rfl (hb hby d1_26) k)
            show Gl _ _ _ _ (T44.setTop (mkF m 27 #[.val (.int u), .val (.int (4 : Int32))] [(.int (1 : Int32)), (.int (4 : Int32)), (.ref aR), (.int u)]))
            refine Gl.go ?_ (fun t k => XS.iadd X44.here hx rfl (hb hby d1_27) rfl k)
            show Gl _ _ _ _ (T44.setTop (mkF m 28 #[.val (.int u), .val (.int (4 : Int32))] [(.int (5 : Int32)), (.ref aR), (.int u)]))
            refine Gl.go ?_ (BA.rdI B_R X44 hx hZ e44 (by decide) (by decide) (g := (mkF m 28 #[.val (.int u), .val (.int (4 : Int32))] [(.int (5 : Int32)), (.ref aR), (.int u)])) rfl rfl (hb hby d1_28))
            show Gl _ _ _ _ (T44.setTop (mkF m 29 #[.val (.int u), .val (.int (4 : Int32))] [(.int (95 : Int32)), (.int u)]))
            by_cases hc45 : (95 : Int32) < u
            · refine Gl.go ?_ (fun t k => XS.icmpYes X44.here hx rfl (pc0 := 29) (pc' := 34) rfl (hb hby d1_29) rfl (tlt hc45).2.2.1 (by decide) (by decide) k)
              show Gl _ _ _ _ (T44.setTop (mkF m 34 #[.val (.int u), .val (.int (4 : Int32))] []))
              refine Gl.go ?_ (fun t k => XS.iinc X44.here hx rfl (hb hby d1_34) rfl (l' := #[.val (.int u), .val (.int (6 : Int32))]) rfl k)
              show Gl _ _ _ _ (T44.setTop (mkF m 37 #[.val (.int u), .val (.int (6 : Int32))] []))
              refine Gl.go ?_ (fun t k => XS.goto X44.here hx rfl (pc0 := 37) (pc' := 2) rfl (hb hby d1_37) (by decide) (by decide) k)
              show Gl _ _ _ _ (T44.setTop (mkF m 2 #[.val (.int u), .val (.int (6 : Int32))] []))
              refine Gl.go ?_ (fun t k => XS.iloadN X44.here hx rfl (hb hby d1_2) rfl k)
              show Gl _ _ _ _ (T44.setTop (mkF m 3 #[.val (.int u), .val (.int (6 : Int32))] [(.int (6 : Int32))]))
              obtain ⟨T46, X46, e46, st46⟩ := getS2 X44 hx hZ hown (host := "") (Or.inl (hw _ (List.mem_of_getElem? (i := 14) rfl))) Via.refl e44 S_R (g := (mkF m 3 #[.val (.int u), .val (.int (6 : Int32))] [(.int (6 : Int32))])) rfl (hb hby d1_3)
              refine Gl.go ?_ st46
              show Gl _ _ _ _ (T46.setTop (mkF m 6 #[.val (.int u), .val (.int (6 : Int32))] [(.ref aR), (.int (6 : Int32))]))
              refine Gl.go ?_ (BA.len B_R X46 hx hZ e46 (g := (mkF m 6 #[.val (.int u), .val (.int (6 : Int32))] [(.ref aR), (.int (6 : Int32))])) rfl rfl (hb hby d1_6))
              show Gl _ _ _ _ (T46.setTop (mkF m 7 #[.val (.int u), .val (.int (6 : Int32))] [(.int (32 : Int32)), (.int (6 : Int32))]))
              refine Gl.go ?_ (fun t k => XS.icmpNo X46.here hx rfl (hb hby d1_7) rfl (tlt (by decide : (6 : Int32) < (32 : Int32))).2.1 k)
              show Gl _ _ _ _ (T46.setTop (mkF m 10 #[.val (.int u), .val (.int (6 : Int32))] []))
              refine Gl.go ?_ (fun t k => XS.iloadN X46.here hx rfl (hb hby d1_10) rfl k)
              show Gl _ _ _ _ (T46.setTop (mkF m 11 #[.val (.int u), .val (.int (6 : Int32))] [(.int u)]))
              obtain ⟨T47, X47, e47, st47⟩ := getS2 X46 hx hZ hown (host := "") (Or.inl (hw _ (List.mem_of_getElem? (i := 14) rfl))) Via.refl e46 S_R (g := (mkF m 11 #[.val (.int u), .val (.int (6 : Int32))] [(.int u)])) rfl (hb hby d1_11)
              refine Gl.go ?_ st47
              show Gl _ _ _ _ (T47.setTop (mkF m 14 #[.val (.int u), .val (.int (6 : Int32))] [(.ref aR), (.int u)]))
              refine Gl.go ?_ (fun t k => XS.iloadN X47.here hx rfl (hb hby d1_14) rfl k)
              show Gl _ _ _ _ (T47.setTop (mkF m 15 #[.val (.int u), .val (.int (6 : Int32))] [(.int (6 : Int32)), (.ref aR), (.int u)]))
              refine Gl.go ?_ (BA.rdI B_R X47 hx hZ e47 (by decide) (by decide) (g := (mkF m 15 #[.val (.int u), .val (.int (6 : Int32))] [(.int (6 : Int32)), (.ref aR), (.int u)])) rfl rfl (hb hby d1_15))
              show Gl _ _ _ _ (T47.setTop (mkF m 16 #[.val (.int u), .val (.int (6 : Int32))] [(.int (97 : Int32)), (.int u)]))
              by_cases hc48 : u < (97 : Int32)
              · refine Gl.go ?_ (fun t k => XS.icmpNo X47.here hx rfl (hb hby d1_16) rfl (tlt hc48).2.1 k)
                show Gl _ _ _ _ (T47.setTop (mkF m 19 #[.val (.int u), .val (.int (6 : Int32))] []))
                refine Gl.go ?_ (fun t k => XS.iconst X47.here hx rfl (hb hby d1_19) k)
                show Gl _ _ _ _ (T47.setTop (mkF m 20 #[.val (.int u), .val (.int (6 : Int32))] [(.int (0 : Int32))]))
                obtain ⟨fs, hr, hrun, hended, hW, hsame⟩ := X47.leave (v := some (.int (0 : Int32))) (fun h => by rw [Bd.returns] at h; cases h) (BodyLoose.notSynchronized Bd)
                exact Gl.mk ⟨_, _, retN X47 hx (t := .boolean) Bd.returns (by simp) (hb hby d1_20) hr, hrun, hended, _, _, rfl, ⟨congrArg (fun z => some (Value.int z)) ((if_neg hc33).trans ((if_pos hc35).trans ((if_neg hc38).trans ((if_pos hc40).trans ((if_neg hc43).trans ((if_pos hc45).trans ((if_pos hc48).trans (rfl)))))))).symm, rfl, e47⟩, ⟨_, rfl⟩, hW, hsame.mono (by decide) (by decide)⟩
              · refine Gl.go ?_ (fun t k => XS.icmpYes X47.here hx rfl (pc0 := 16) (pc' := 21) rfl (hb hby d1_16) rfl (flt hc48).2.1 (by decide) (by decide) k)
                show Gl _ _ _ _ (T47.setTop (mkF m 21 #[.val (.int u), .val (.int (6 : Int32))] []))
                refine Gl.go ?_ (fun t k => XS.iloadN X47.here hx rfl (hb hby d1_21) rfl k)
                show Gl _ _ _ _ (T47.setTop (mkF m 22 #[.val (.int u), .val (.int (6 : Int32))] [(.int u)]))
                obtain ⟨T49, X49, e49, st49⟩ := getS2 X47 hx hZ hown (host := "") (Or.inl (hw _ (List.mem_of_getElem? (i := 14) rfl))) Via.refl e47 S_R (g := (mkF m 22 #[.val (.int u), .val (.int (6 : Int32))] [(.int u)])) rfl (hb hby d1_22)
                refine Gl.go ?_ st49
                show Gl _ _ _ _ (T49.setTop (mkF m 25 #[.val (.int u), .val (.int (6 : Int32))] [(.ref aR), (.int u)]))
                refine Gl.go ?_ (fun t k => XS.iloadN X49.here hx rfl (hb hby d1_25) rfl k)
                show Gl _ _ _ _ (T49.setTop (mkF m 26 #[.val (.int u), .val (.int (6 : Int32))] [(.int (6 : Int32)), (.ref aR), (.int u)]))
                refine Gl.go ?_ (fun t k => XS.iconst X49.here hx rfl (hb hby d1_26) k)
                show Gl _ _ _ _ (T49.setTop (mkF m 27 #[.val (.int u), .val (.int (6 : Int32))] [(.int (1 : Int32)), (.int (6 : Int32)), (.ref aR), (.int u)]))
                refine Gl.go ?_ (fun t k => XS.iadd X49.here hx rfl (hb hby d1_27) rfl k)
                show Gl _ _ _ _ (T49.setTop (mkF m 28 #[.val (.int u), .val (.int (6 : Int32))] [(.int (7 : Int32)), (.ref aR), (.int u)]))
                refine Gl.go ?_ (BA.rdI B_R X49 hx hZ e49 (by decide) (by decide) (g := (mkF m 28 #[.val (.int u), .val (.int (6 : Int32))] [(.int (7 : Int32)), (.ref aR), (.int u)])) rfl rfl (hb hby d1_28))
                show Gl _ _ _ _ (T49.setTop (mkF m 29 #[.val (.int u), .val (.int (6 : Int32))] [(.int (122 : Int32)), (.int u)]))
                by_cases hc50 : (122 : Int32) < u
                · refine Gl.go ?_ (fun t k => XS.icmpYes X49.here hx rfl (pc0 := 29) (pc' := 34) rfl (hb hby d1_29) rfl (tlt hc50).2.2.1 (by decide) (by decide) k)
                  show Gl _ _ _ _ (T49.setTop (mkF m 34 #[.val (.int u), .val (.int (6 : Int32))] []))
                  refine Gl.go ?_ (fun t k => XS.iinc X49.here hx rfl (hb hby d1_34) rfl (l' := #[.val (.int u), .val (.int (8 : Int32))]) rfl k)
                  show Gl _ _ _ _ (T49.setTop (mkF m 37 #[.val (.int u), .val (.int (8 : Int32))] []))
                  refine Gl.go ?_ (fun t k => XS.goto X49.here hx rfl (pc0 := 37) (pc' := 2) rfl (hb hby d1_37) (by decide) (by decide) k)
                  show Gl _ _ _ _ (T49.setTop (mkF m 2 #[.val (.int u), .val (.int (8 : Int32))] []))
                  refine Gl.go ?_ (fun t k => XS.iloadN X49.here hx rfl (hb hby d1_2) rfl k)
                  show Gl _ _ _ _ (T49.setTop (mkF m 3 #[.val (.int u), .val (.int (8 : Int32))] [(.int (8 : Int32))]))
                  obtain ⟨T51, X51, e51, st51⟩ := getS2 X49 hx hZ hown (host := "") (Or.inl (hw _ (List.mem_of_getElem? (i := 14) rfl))) Via.refl e49 S_R (g := (mkF m 3 #[.val (.int u), .val (.int (8 : Int32))] [(.int (8 : Int32))])) rfl (hb hby d1_3)
                  refine Gl.go ?_ st51
                  show Gl _ _ _ _ (T51.setTop (mkF m 6 #[.val (.int u), .val (.int (8 : Int32))] [(.ref aR), (.int (8 : Int32))]))
                  refine Gl.go ?_ (BA.len B_R X51 hx hZ e51 (g := (mkF m 6 #[.val (.int u), .val (.int (8 : Int32))] [(.ref aR), (.int (8 : Int32))])) rfl rfl (hb hby d1_6))
                  show Gl _ _ _ _ (T51.setTop (mkF m 7 #[.val (.int u), .val (.int (8 : Int32))] [(.int (32 : Int32)), (.int (8 : Int32))]))
                  refine Gl.go ?_ (fun t k => XS.icmpNo X51.here hx rfl (hb hby d1_7) rfl (tlt (by decide : (8 : Int32) < (32 : Int32))).2.1 k)
                  show Gl _ _ _ _ (T51.setTop (mkF m 10 #[.val (.int u), .val (.int (8 : Int32))] []))
                  refine Gl.go ?_ (fun t k => XS.iloadN X51.here hx rfl (hb hby d1_10) rfl k)
                  show Gl _ _ _ _ (T51.setTop (mkF m 11 #[.val (.int u), .val (.int (8 : Int32))] [(.int u)]))
                  obtain ⟨T52, X52, e52, st52⟩ := getS2 X51 hx hZ hown (host := "") (Or.inl (hw _ (List.mem_of_getElem? (i := 14) rfl))) Via.refl e51 S_R (g := (mkF m 11 #[.val (.int u), .val (.int (8 : Int32))] [(.int u)])) rfl (hb hby d1_11)
                  refine Gl.go ?_ st52
                  show Gl _ _ _ _ (T52.setTop (mkF m 14 #[.val (.int u), .val (.int (8 : Int32))] [(.ref aR), (.int u)]))
                  refine Gl.go ?_ (fun t k => XS.iloadN X52.here hx rfl (hb hby d1_14) rfl k)
                  show Gl _ _ _ _ (T52.setTop (mkF m 15 #[.val (.int u), .val (.int (8 : Int32))] [(.int (8 : Int32)), (.ref aR), (.int u)]))
                  refine Gl.go ?_ (BA.rdI B_R X52 hx hZ e52 (by decide) (by decide) (g := (mkF m 15 #[.val (.int u), .val (.int (8 : Int32))] [(.int (8 : Int32)), (.ref aR), (.int u)])) rfl rfl (hb hby d1_15))
                  show Gl _ _ _ _ (T52.setTop (mkF m 16 #[.val (.int u), .val (.int (8 : Int32))] [(.int (192 : Int32)), (.int u)]))
                  by_cases hc53 : u < (192 : Int32)
                  · refine Gl.go ?_ (fun t k => XS.icmpNo X52.here hx rfl (hb hby d1_16) rfl (tlt hc53).2.1 k)
                    show Gl _ _ _ _ (T52.setTop (mkF m 19 #[.val (.int u), .val (.int (8 : Int32))] []))
                    refine Gl.go ?_ (fun t k => XS.iconst X52.here hx rfl (hb hby d1_19) k)
                    show Gl _ _ _ _ (T52.setTop (mkF m 20 #[.val (.int u), .val (.int (8 : Int32))] [(.int (0 : Int32))]))
                    obtain ⟨fs, hr, hrun, hended, hW, hsame⟩ := X52.leave (v := some (.int (0 : Int32))) (fun h => by rw [Bd.returns] at h; cases h) (BodyLoose.notSynchronized Bd)
                    exact Gl.mk ⟨_, _, retN X52 hx (t := .boolean) Bd.returns (by simp) (hb hby d1_20) hr, hrun, hended, _, _, rfl, ⟨congrArg (fun z => some (Value.int z)) ((if_neg hc33).trans ((if_pos hc35).trans ((if_neg hc38).trans ((if_pos hc40).trans ((if_neg hc43).trans ((if_pos hc45).trans ((if_neg hc48).trans ((if_pos hc50).trans ((if_pos hc53).trans (rfl)))))))))).symm, rfl, e52⟩, ⟨_, rfl⟩, hW, hsame.mono (by decide) (by decide)⟩
                  · refine Gl.go ?_ (fun t k => XS.icmpYes X52.here hx rfl (pc0 := 16) (pc' := 21) rfl (hb hby d1_16) rfl (flt hc53).2.1 (by decide) (by decide) k)
                    show Gl _ _ _ _ (T52.setTop (mkF m 21 #[.val (.int u), .val (.int (8 : Int32))] []))
                    refine Gl.go ?_ (fun t k => XS.iloadN X52.here hx rfl (hb hby d1_21) rfl k)
                    show Gl _ _ _ _ (T52.setTop (mkF m 22 #[.val (.int u), .val (.int (8 : Int32))] [(.int u)]))
                    obtain ⟨T54, X54, e54, st54⟩ := getS2 X52 hx hZ hown (host := "") (Or.inl (hw _ (List.mem_of_getElem? (i := 14) rfl))) Via.refl e52 S_R (g := (mkF m 22 #[.val (.int u), .val (.int (8 : Int32))] [(.int u)])) rfl (hb hby d1_22)
                    refine Gl.go ?_ st54
                    show Gl _ _ _ _ (T54.setTop (mkF m 25 #[.val (.int u), .val (.int (8 : Int32))] [(.ref aR), (.int u)]))
                    refine Gl.go ?_ (fun t k => XS.iloadN X54.here hx rfl (hb hby d1_25) rfl k)
                    show Gl _ _ _ _ (T54.setTop (mkF m 26 #[.val (.int u), .val (.int (8 : Int32))] [(.int (8 : Int32)), (.ref aR), (.int u)]))
                    refine Gl.go ?_ (fun t k => XS.iconst X54.here hx rfl (hb hby d1_26) k)
                    show Gl _ _ _ _ (T54.setTop (mkF m 27 #[.val (.int u), .val (.int (8 : Int32))] [(.int (1 : Int32)), (.int (8 : Int32)), (.ref aR), (.int u)]))
                    refine Gl.go ?_ (fun t k => XS.iadd X54.here hx rfl (hb hby d1_27) rfl k)
                    show Gl _ _ _ _ (T54.setTop (mkF m 28 #[.val (.int u), .val (.int (8 : Int32))] [(.int (9 : Int32)), (.ref aR), (.int u)]))
                    refine Gl.go ?_ (BA.rdI B_R X54 hx hZ e54 (by decide) (by decide) (g := (mkF m 28 #[.val (.int u), .val (.int (8 : Int32))] [(.int (9 : Int32)), (.ref aR), (.int u)])) rfl rfl (hb hby d1_28))
                    show Gl _ _ _ _ (T54.setTop (mkF m 29 #[.val (.int u), .val (.int (8 : Int32))] [(.int (214 : Int32)), (.int u)]))
                    by_cases hc55 : (214 : Int32) < u
                    · refine Gl.go ?_ (fun t k => XS.icmpYes X54.here hx rfl (pc0 := 29) (pc' := 34) rfl (hb hby d1_29) rfl (tlt hc55).2.2.1 (by decide) (by decide) k)
                      show Gl _ _ _ _ (T54.setTop (mkF m 34 #[.val (.int u), .val (.int (8 : Int32))] []))
                      refine Gl.go ?_ (fun t k => XS.iinc X54.here hx rfl (hb hby d1_34) rfl (l' := #[.val (.int u), .val (.int (10 : Int32))]) rfl k)
                      show Gl _ _ _ _ (T54.setTop (mkF m 37 #[.val (.int u), .val (.int (10 : Int32))] []))
                      refine Gl.go ?_ (fun t k => XS.goto X54.here hx rfl (pc0 := 37) (pc' := 2) rfl (hb hby d1_37) (by decide) (by decide) k)
                      show Gl _ _ _ _ (T54.setTop (mkF m 2 #[.val (.int u), .val (.int (10 : Int32))] []))
                      refine Gl.go ?_ (fun t k => XS.iloadN X54.here hx rfl (hb hby d1_2) rfl k)
                      show Gl _ _ _ _ (T54.setTop (mkF m 3 #[.val (.int u), .val (.int (10 : Int32))] [(.int (10 : Int32))]))
                      obtain ⟨T56, X56, e56, st56⟩ := getS2 X54 hx hZ hown (host := "") (Or.inl (hw _ (List.mem_of_getElem? (i := 14) rfl))) Via.refl e54 S_R (g := (mkF m 3 #[.val (.int u), .val (.int (10 : Int32))] [(.int (10 : Int32))])) rfl (hb hby d1_3)
                      refine Gl.go ?_ st56
                      show Gl _ _ _ _ (T56.setTop (mkF m 6 #[.val (.int u), .val (.int (10 : Int32))] [(.ref aR), (.int (10 : Int32))]))
                      refine Gl.go ?_ (BA.len B_R X56 hx hZ e56 (g := (mkF m 6 #[.val (.int u), .val (.int (10 : Int32))] [(.ref aR), (.int (10 : Int32))])) rfl rfl (hb hby d1_6))
                      show Gl _ _ _ _ (T56.setTop (mkF m 7 #[.val (.int u), .val (.int (10 : Int32))] [(.int (32 : Int32)), (.int (10 : Int32))]))
                      refine Gl.go ?_ (fun t k => XS.icmpNo X56.here hx rfl (hb hby d1_7) rfl (tlt (by decide : (10 : Int32) < (32 : Int32))).2.1 k)
                      show Gl _ _ _ _ (T56.setTop (mkF m 10 #[.val (.int u), .val (.int (10 : Int32))] []))
                      refine Gl.go ?_ (fun t k => XS.iloadN X56.here hx rfl (hb hby d1_10) rfl k)
                      show Gl _ _ _ _ (T56.setTop (mkF m 11 #[.val (.int u), .val (.int (10 : Int32))] [(.int u)]))
                      obtain ⟨T57, X57, e57, st57⟩ := getS2 X56 hx hZ hown (host := "") (Or.inl (hw _ (List.mem_of_getElem? (i := 14) rfl))) Via.refl e56 S_R (g := (mkF m 11 #[.val (.int u), .val (.int (10 : Int32))] [(.int u)])) rfl (hb hby d1_11)
                      refine Gl.go ?_ st57
                      show Gl _ _ _ _ (T57.setTop (mkF m 14 #[.val (.int u), .val (.int (10 : Int32))] [(.ref aR), (.int u)]))
                      refine Gl.go ?_ (fun t k => XS.iloadN X57.here hx rfl (hb hby d1_14) rfl k)
                      show Gl _ _ _ _ (T57.setTop (mkF m 15 #[.val (.int u), .val (.int (10 : Int32))] [(.int (10 : Int32)), (.ref aR), (.int u)]))
                      refine Gl.go ?_ (BA.rdI B_R X57 hx hZ e57 (by decide) (by decide) (g := (mkF m 15 #[.val (.int u), .val (.int (10 : Int32))] [(.int (10 : Int32)), (.ref aR), (.int u)])) rfl rfl (hb hby d1_15))
                      show Gl _ _ _ _ (T57.setTop (mkF m 16 #[.val (.int u), .val (.int (10 : Int32))] [(.int (216 : Int32)), (.int u)]))
                      by_cases hc58 : u < (216 : Int32)
                      · refine Gl.go ?_ (fun t k => XS.icmpNo X57.here hx rfl (hb hby d1_16) rfl (tlt hc58).2.1 k)
                        show Gl _ _ _ _ (T57.setTop (mkF m 19 #[.val (.int u), .val (.int (10 : Int32))] []))
                        refine Gl.go ?_ (fun t k => XS.iconst X57.here hx rfl (hb hby d1_19) k)
                        show Gl _ _ _ _ (T57.setTop (mkF m 20 #[.val (.int u), .val (.int (10 : Int32))] [(.int (0 : Int32))]))
                        obtain ⟨fs, hr, hrun, hended, hW, hsame⟩ := X57.leave (v := some (.int (0 : Int32))) (fun h => by rw [Bd.returns] at h; cases h) (BodyLoose.notSynchronized Bd)
                        exact Gl.mk ⟨_, _, retN X57 hx (t := .boolean) Bd.returns (by simp) (hb hby d1_20) hr, hrun, hended, _, _, rfl, ⟨congrArg (fun z => some (Value.int z)) ((if_neg hc33).trans ((if_pos hc35).trans ((if_neg hc38).trans ((if_pos hc40).trans ((if_neg hc43).trans ((if_pos hc45).trans ((if_neg hc48).trans ((if_pos hc50).trans ((if_neg hc53).trans ((if_pos hc55).trans ((if_pos hc58).trans (rfl)))))))))))).symm, rfl, e57⟩, ⟨_, rfl⟩, hW, hsame.mono (by decide) (by decide)⟩
                      · refine Gl.go ?_ (fun t k => XS.icmpYes X57.here hx rfl (pc0 := 16) (pc' := 21) rfl (hb hby d1_16) rfl (flt hc58).2.1 (by decide) (by decide) k)
                        show Gl _ _ _ _ (T57.setTop (mkF m 21 #[.val (.int u), .val (.int (10 : Int32))] []))
                        refine Gl.go ?_ (fun t k => XS.iloadN X57.here hx rfl (hb hby d1_21) rfl k)
                        show Gl _ _ _ _ (T57.setTop (mkF m 22 #[.val (.int u), .val (.int (10 : Int32))] [(.int u)]))
                        obtain ⟨T59, X59, e59, st59⟩ := getS2 X57 hx hZ hown (host := "") (Or.inl (hw _ (List.mem_of_getElem? (i := 14) rfl))) Via.refl e57 S_R (g := (mkF m 22 #[.val (.int u), .val (.int (10 : Int32))] [(.int u)])) rfl (hb hby d1_22)
                        refine Gl.go ?_ st59
                        show Gl _ _ _ _ (T59.setTop (mkF m 25 #[.val (.int u), .val (.int (10 : Int32))] [(.ref aR), (.int u)]))
                        refine Gl.go ?_ (fun t k => XS.iloadN X59.here hx rfl (hb hby d1_25) rfl k)
                        show Gl _ _ _ _ (T59.setTop (mkF m 26 #[.val (.int u), .val (.int (10 : Int32))] [(.int (10 : Int32)), (.ref aR), (.int u)]))
                        refine Gl.go ?_ (fun t k => XS.iconst X59.here hx rfl (hb hby d1_26) k)
                        show Gl _ _ _ _ (T59.setTop (mkF m 27 #[.val (.int u), .val (.int (10 : Int32))] [(.int (1 : Int32)), (.int (10 : Int32)), (.ref aR), (.int u)]))
                        refine Gl.go ?_ (fun t k => XS.iadd X59.here hx rfl (hb hby d1_27) rfl k)
                        show Gl _ _ _ _ (T59.setTop (mkF m 28 #[.val (.int u), .val (.int (10 : Int32))] [(.int (11 : Int32)), (.ref aR), (.int u)]))
                        refine Gl.go ?_ (BA.rdI B_R X59 hx hZ e59 (by decide) (by decide) (g := (mkF m 28 #[.val (.int u), .val (.int (10 : Int32))] [(.int (11 : Int32)), (.ref aR), (.int u)])) rfl rfl (hb hby d1_28))
                        show Gl _ _ _ _ (T59.setTop (mkF m 29 #[.val (.int u), .val (.int (10 : Int32))] [(.int (246 : Int32)), (.int u)]))
                        by_cases hc60 : (246 : Int32) < u
                        · refine Gl.go ?_ (fun t k => XS.icmpYes X59.here hx rfl (pc0 := 29) (pc' := 34) rfl (hb hby d1_29) rfl (tlt hc60).2.2.1 (by decide) (by decide) k)
                          show Gl _ _ _ _ (T59.setTop (mkF m 34 #[.val (.int u), .val (.int (10 : Int32))] []))
                          refine Gl.go ?_ (fun t k => XS.iinc X59.here hx rfl (hb hby d1_34) rfl (l' := #[.val (.int u), .val (.int (12 : Int32))]) rfl k)
                          show Gl _ _ _ _ (T59.setTop (mkF m 37 #[.val (.int u), .val (.int (12 : Int32))] []))
                          refine Gl.go ?_ (fun t k => XS.goto X59.here hx rfl (pc0 := 37) (pc' := 2) rfl (hb hby d1_37) (by decide) (by decide) k)
                          show Gl _ _ _ _ (T59.setTop (mkF m 2 #[.val (.int u), .val (.int (12 : Int32))] []))
                          refine Gl.go ?_ (fun t k => XS.iloadN X59.here hx rfl (hb hby d1_2) rfl k)
                          show Gl _ _ _ _ (T59.setTop (mkF m 3 #[.val (.int u), .val (.int (12 : Int32))] [(.int (12 : Int32))]))
                          obtain ⟨T61, X61, e61, st61⟩ := getS2 X59 hx hZ hown (host := "") (Or.inl (hw _ (List.mem_of_getElem? (i := 14) rfl))) Via.refl e59 S_R (g := (mkF m 3 #[.val (.int u), .val (.int (12 : Int32))] [(.int (12 : Int32))])) rfl (hb hby d1_3)
                          refine Gl.go ?_ st61
                          show Gl _ _ _ _ (T61.setTop (mkF m 6 #[.val (.int u), .val (.int (12 : Int32))] [(.ref aR), (.int (12 : Int32))]))
                          refine Gl.go ?_ (BA.len B_R X61 hx hZ e61 (g := (mkF m 6 #[.val (.int u), .val (.int (12 : Int32))] [(.ref aR), (.int (12 : Int32))])) rfl rfl (hb hby d1_6))
                          show Gl _ _ _ _ (T61.setTop (mkF m 7 #[.val (.int u), .val (.int (12 : Int32))] [(.int (32 : Int32)), (.int (12 : Int32))]))
                          refine Gl.go ?_ (fun t k => XS.icmpNo X61.here hx rfl (hb hby d1_7) rfl (tlt (by decide : (12 : Int32) < (32 : Int32))).2.1 k)
                          show Gl _ _ _ _ (T61.setTop (mkF m 10 #[.val (.int u), .val (.int (12 : Int32))] []))
                          refine Gl.go ?_ (fun t k => XS.iloadN X61.here hx rfl (hb hby d1_10) rfl k)
                          show Gl _ _ _ _ (T61.setTop (mkF m 11 #[.val (.int u), .val (.int (12 : Int32))] [(.int u)]))
                          obtain ⟨T62, X62, e62, st62⟩ := getS2 X61 hx hZ hown (host := "") (Or.inl (hw _ (List.mem_of_getElem? (i := 14) rfl))) Via.refl e61 S_R (g := (mkF m 11 #[.val (.int u), .val (.int (12 : Int32))] [(.int u)])) rfl (hb hby d1_11)
                          refine Gl.go ?_ st62
                          show Gl _ _ _ _ (T62.setTop (mkF m 14 #[.val (.int u), .val (.int (12 : Int32))] [(.ref aR), (.int u)]))
                          refine Gl.go ?_ (fun t k => XS.iloadN X62.here hx rfl (hb hby d1_14) rfl k)
                          show Gl _ _ _ _ (T62.setTop (mkF m 15 #[.val (.int u), .val (.int (12 : Int32))] [(.int (12 : Int32)), (.ref aR), (.int u)]))
                          refine Gl.go ?_ (BA.rdI B_R X62 hx hZ e62 (by decide) (by decide) (g := (mkF m 15 #[.val (.int u), .val (.int (12 : Int32))] [(.int (12 : Int32)), (.ref aR), (.int u)])) rfl rfl (hb hby d1_15))
                          show Gl _ _ _ _ (T62.setTop (mkF m 16 #[.val (.int u), .val (.int (12 : Int32))] [(.int (248 : Int32)), (.int u)]))
                          by_cases hc63 : u < (248 : Int32)
                          · refine Gl.go ?_ (fun t k => XS.icmpNo X62.here hx rfl (hb hby d1_16) rfl (tlt hc63).2.1 k)
                            show Gl _ _ _ _ (T62.setTop (mkF m 19 #[.val (.int u), .val (.int (12 : Int32))] []))
                            refine Gl.go ?_ (fun t k => XS.iconst X62.here hx rfl (hb hby d1_19) k)
                            show Gl _ _ _ _ (T62.setTop (mkF m 20 #[.val (.int u), .val (.int (12 : Int32))] [(.int (0 : Int32))]))
                            obtain ⟨fs, hr, hrun, hended, hW, hsame⟩ := X62.leave (v := some (.int (0 : Int32))) (fun h => by rw [Bd.returns] at h; cases h) (BodyLoose.notSynchronized Bd)
                            exact Gl.mk ⟨_, _, retN X62 hx (t := .boolean) Bd.returns (by simp) (hb hby d1_20) hr, hrun, hended, _, _, rfl, ⟨congrArg (fun z => some (Value.int z)) ((if_neg hc33).trans ((if_pos hc35).trans ((if_neg hc38).trans ((if_pos hc40).trans ((if_neg hc43).trans ((if_pos hc45).trans ((if_neg hc48).trans ((if_pos hc50).trans ((if_neg hc53).trans ((if_pos hc55).trans ((if_neg hc58).trans ((if_pos hc60).trans ((if_pos hc63).trans (rfl)))))))))))))).symm, rfl, e62⟩, ⟨_, rfl⟩, hW, hsame.mono (by decide) (by decide)⟩
                          · refine Gl.go ?_ (fun t k => XS.icmpYes X62.here hx rfl (pc0 := 16) (pc' := 21) rfl (hb hby d1_16) rfl (flt hc63).2.1 (by decide) (by decide) k)
                            show Gl _ _ _ _ (T62.setTop (mkF m 21 #[.val (.int u), .val (.int (12 : Int32))] []))
                            refine Gl.go ?_ (fun t k => XS.iloadN X62.here hx rfl (hb hby d1_21) rfl k)
                            show Gl _ _ _ _ (T62.setTop (mkF m 22 #[.val (.int u), .val (.int (12 : Int32))] [(.int u)]))
                            obtain ⟨T64, X64, e64, st64⟩ := getS2 X62 hx hZ hown (host := "") (Or.inl (hw _ (List.mem_of_getElem? (i := 14) rfl))) Via.refl e62 S_R (g := (mkF m 22 #[.val (.int u), .val (.int (12 : Int32))] [(.int u)])) rfl (hb hby d1_22)
                            refine Gl.go ?_ st64
                            show Gl _ _ _ _ (T64.setTop (mkF m 25 #[.val (.int u), .val (.int (12 : Int32))] [(.ref aR), (.int u)]))
                            refine Gl.go ?_ (fun t k => XS.iloadN X64.here hx rfl (hb hby d1_25) rfl k)
                            show Gl _ _ _ _ (T64.setTop (mkF m 26 #[.val (.int u), .val (.int (12 : Int32))] [(.int (12 : Int32)), (.ref aR), (.int u)]))
                            refine Gl.go ?_ (fun t k => XS.iconst X64.here hx rfl (hb hby d1_26) k)
                            show Gl _ _ _ _ (T64.setTop (mkF m 27 #[.val (.int u), .val (.int (12 : Int32))] [(.int (1 : Int32)), (.int (12 : Int32)), (.ref aR), (.int u)]))
                            refine Gl.go ?_ (fun t k => XS.iadd X64.here hx rfl (hb hby d1_27) rfl k)
                            show Gl _ _ _ _ (T64.setTop (mkF m 28 #[.val (.int u), .val (.int (12 : Int32))] [(.int (13 : Int32)), (.ref aR), (.int u)]))
                            refine Gl.go ?_ (BA.rdI B_R X64 hx hZ e64 (by decide) (by decide) (g := (mkF m 28 #[.val (.int u), .val (.int (12 : Int32))] [(.int (13 : Int32)), (.ref aR), (.int u)])) rfl rfl (hb hby d1_28))
                            show Gl _ _ _ _ (T64.setTop (mkF m 29 #[.val (.int u), .val (.int (12 : Int32))] [(.int (767 : Int32)), (.int u)]))
                            by_cases hc65 : (767 : Int32) < u
                            · refine Gl.go ?_ (fun t k => XS.icmpYes X64.here hx rfl (pc0 := 29) (pc' := 34) rfl (hb hby d1_29) rfl (tlt hc65).2.2.1 (by decide) (by decide) k)
                              show Gl _ _ _ _ (T64.setTop (mkF m 34 #[.val (.int u), .val (.int (12 : Int32))] []))
                              refine Gl.go ?_ (fun t k => XS.iinc X64.here hx rfl (hb hby d1_34) rfl (l' := #[.val (.int u), .val (.int (14 : Int32))]) rfl k)
                              show Gl _ _ _ _ (T64.setTop (mkF m 37 #[.val (.int u), .val (.int (14 : Int32))] []))
                              refine Gl.go ?_ (fun t k => XS.goto X64.here hx rfl (pc0 := 37) (pc' := 2) rfl (hb hby d1_37) (by decide) (by decide) k)
                              show Gl _ _ _ _ (T64.setTop (mkF m 2 #[.val (.int u), .val (.int (14 : Int32))] []))
                              refine Gl.go ?_ (fun t k => XS.iloadN X64.here hx rfl (hb hby d1_2) rfl k)
                              show Gl _ _ _ _ (T64.setTop (mkF m 3 #[.val (.int u), .val (.int (14 : Int32))] [(.int (14 : Int32))]))
                              obtain ⟨T66, X66, e66, st66⟩ := getS2 X64 hx hZ hown (host := "") (Or.inl (hw _ (List.mem_of_getElem? (i := 14) rfl))) Via.refl e64 S_R (g := (mkF m 3 #[.val (.int u), .val (.int (14 : Int32))] [(.int (14 : Int32))])) rfl (hb hby d1_3)
                              refine Gl.go ?_ st66
                              show Gl _ _ _ _ (T66.setTop (mkF m 6 #[.val (.int u), .val (.int (14 : Int32))] [(.ref aR), (.int (14 : Int32))]))
                              refine Gl.go ?_ (BA.len B_R X66 hx hZ e66 (g := (mkF m 6 #[.val (.int u), .val (.int (14 : Int32))] [(.ref aR), (.int (14 : Int32))])) rfl rfl (hb hby d1_6))
                              show Gl _ _ _ _ (T66.setTop (mkF m 7 #[.val (.int u), .val (.int (14 : Int32))] [(.int (32 : Int32)), (.int (14 : Int32))]))
                              refine Gl.go ?_ (fun t k => XS.icmpNo X66.here hx rfl (hb hby d1_7) rfl (tlt (by decide : (14 : Int32) < (32 : Int32))).2.1 k)
                              show Gl _ _ _ _ (T66.setTop (mkF m 10 #[.val (.int u), .val (.int (14 : Int32))] []))
                              refine Gl.go ?_ (fun t k => XS.iloadN X66.here hx rfl (hb hby d1_10) rfl k)
                              show Gl _ _ _ _ (T66.setTop (mkF m 11 #[.val (.int u), .val (.int (14 : Int32))] [(.int u)]))
                              obtain ⟨T67, X67, e67, st67⟩ := getS2 X66 hx hZ hown (host := "") (Or.inl (hw _ (List.mem_of_getElem? (i := 14) rfl))) Via.refl e66 S_R (g := (mkF m 11 #[.val (.int u), .val (.int (14 : Int32))] [(.int u)])) rfl (hb hby d1_11)
                              refine Gl.go ?_ st67
                              show Gl _ _ _ _ (T67.setTop (mkF m 14 #[.val (.int u), .val (.int (14 : Int32))] [(.ref aR), (.int u)]))
                              refine Gl.go ?_ (fun t k => XS.iloadN X67.here hx rfl (hb hby d1_14) rfl k)
                              show Gl _ _ _ _ (T67.setTop (mkF m 15 #[.val (.int u), .val (.int (14 : Int32))] [(.int (14 : Int32)), (.ref aR), (.int u)]))
                              refine Gl.go ?_ (BA.rdI B_R X67 hx hZ e67 (by decide) (by decide) (g := (mkF m 15 #[.val (.int u), .val (.int (14 : Int32))] [(.int (14 : Int32)), (.ref aR), (.int u)])) rfl rfl (hb hby d1_15))
                              show Gl _ _ _ _ (T67.setTop (mkF m 16 #[.val (.int u), .val (.int (14 : Int32))] [(.int (880 : Int32)), (.int u)]))
                              by_cases hc68 : u < (880 : Int32)
                              · refine Gl.go ?_ (fun t k => XS.icmpNo X67.here hx rfl (hb hby d1_16) rfl (tlt hc68).2.1 k)
                                show Gl _ _ _ _ (T67.setTop (mkF m 19 #[.val (.int u), .val (.int (14 : Int32))] []))
                                refine Gl.go ?_ (fun t k => XS.iconst X67.here hx rfl (hb hby d1_19) k)
                                show Gl _ _ _ _ (T67.setTop (mkF m 20 #[.val (.int u), .val (.int (14 : Int32))] [(.int (0 : Int32))]))
                                obtain ⟨fs, hr, hrun, hended, hW, hsame⟩ := X67.leave (v := some (.int (0 : Int32))) (fun h => by rw [Bd.returns] at h; cases h) (BodyLoose.notSynchronized Bd)
                                exact Gl.mk ⟨_, _, retN X67 hx (t := .boolean) Bd.returns (by simp) (hb hby d1_20) hr, hrun, hended, _, _, rfl, ⟨congrArg (fun z => some (Value.int z)) ((if_neg hc33).trans ((if_pos hc35).trans ((if_neg hc38).trans ((if_pos hc40).trans ((if_neg hc43).trans ((if_pos hc45).trans ((if_neg hc48).trans ((if_pos hc50).trans ((if_neg hc53).trans ((if_pos hc55).trans ((if_neg hc58).trans ((if_pos hc60).trans ((if_neg hc63).trans ((if_pos hc65).trans ((if_pos hc68).trans (rfl)))))))))))))))).symm, rfl, e67⟩, ⟨_, rfl⟩, hW, hsame.mono (by decide) (by decide)⟩
                              · refine Gl.go ?_ (fun t k => XS.icmpYes X67.here hx rfl (pc0 := 16) (pc' := 21) rfl (hb hby d1_16) rfl (flt hc68).2.1 (by decide) (by decide) k)
                                show Gl _ _ _ _ (T67.setTop (mkF m 21 #[.val (.int u), .val (.int (14 : Int32))] []))
                                refine Gl.go ?_ (fun t k => XS.iloadN X67.here hx rfl (hb hby d1_21) rfl k)
                                show Gl _ _ _ _ (T67.setTop (mkF m 22 #[.val (.int u), .val (.int (14 : Int32))] [(.int u)]))
                                obtain ⟨T69, X69, e69, st69⟩ := getS2 X67 hx hZ hown (host := "") (Or.inl (hw _ (List.mem_of_getElem? (i := 14) rfl))) Via.refl e67 S_R (g := (mkF m 22 #[.val (.int u), .val (.int (14 : Int32))] [(.int u)])) rfl (hb hby d1_22)
                                refine Gl.go ?_ st69
                                show Gl _ _ _ _ (T69.setTop (mkF m 25 #[.val (.int u), .val (.int (14 : Int32))] [(.ref aR), (.int u)]))
                                refine Gl.go ?_ (fun t k => XS.iloadN X69.here hx rfl (hb hby d1_25) rfl k)
                                show Gl _ _ _ _ (T69.setTop (mkF m 26 #[.val (.int u), .val (.int (14 : Int32))] [(.int (14 : Int32)), (.ref aR), (.int u)]))
                                refine Gl.go ?_ (fun t k => XS.iconst X69.here hx rfl (hb hby d1_26) k)
                                show Gl _ _ _ _ (T69.setTop (mkF m 27 #[.val (.int u), .val (.int (14 : Int32))] [(.int (1 : Int32)), (.int (14 : Int32)), (.ref aR), (.int u)]))
                                refine Gl.go ?_ (fun t k => XS.iadd X69.here hx rfl (hb hby d1_27) rfl k)
                                show Gl _ _ _ _ (T69.setTop (mkF m 28 #[.val (.int u), .val (.int (14 : Int32))] [(.int (15 : Int32)), (.ref aR), (.int u)]))
                                refine Gl.go ?_ (BA.rdI B_R X69 hx hZ e69 (by decide) (by decide) (g := (mkF m 28 #[.val (.int u), .val (.int (14 : Int32))] [(.int (15 : Int32)), (.ref aR), (.int u)])) rfl rfl (hb hby d1_28))
                                show Gl _ _ _ _ (T69.setTop (mkF m 29 #[.val (.int u), .val (.int (14 : Int32))] [(.int (893 : Int32)), (.int u)]))
                                by_cases hc70 : (893 : Int32) < u
                                · refine Gl.go ?_ (fun t k => XS.icmpYes X69.here hx rfl (pc0 := 29) (pc' := 34) rfl (hb hby d1_29) rfl (tlt hc70).2.2.1 (by decide) (by decide) k)
                                  show Gl _ _ _ _ (T69.setTop (mkF m 34 #[.val (.int u), .val (.int (14 : Int32))] []))
                                  refine Gl.go ?_ (fun t k => XS.iinc X69.here hx rfl (hb hby d1_34) rfl (l' := #[.val (.int u), .val (.int (16 : Int32))]) rfl k)
                                  show Gl _ _ _ _ (T69.setTop (mkF m 37 #[.val (.int u), .val (.int (16 : Int32))] []))
                                  refine Gl.go ?_ (fun t k => XS.goto X69.here hx rfl (pc0 := 37) (pc' := 2) rfl (hb hby d1_37) (by decide) (by decide) k)
                                  show Gl _ _ _ _ (T69.setTop (mkF m 2 #[.val (.int u), .val (.int (16 : Int32))] []))
                                  refine Gl.go ?_ (fun t k => XS.iloadN X69.here hx rfl (hb hby d1_2) rfl k)
                                  show Gl _ _ _ _ (T69.setTop (mkF m 3 #[.val (.int u), .val (.int (16 : Int32))] [(.int (16 : Int32))]))
                                  obtain ⟨T71, X71, e71, st71⟩ := getS2 X69 hx hZ hown (host := "") (Or.inl (hw _ (List.mem_of_getElem? (i := 14) rfl))) Via.refl e69 S_R (g := (mkF m 3 #[.val (.int u), .val (.int (16 : Int32))] [(.int (16 : Int32))])) rfl (hb hby d1_3)
                                  refine Gl.go ?_ st71
                                  show Gl _ _ _ _ (T71.setTop (mkF m 6 #[.val (.int u), .val (.int (16 : Int32))] [(.ref aR), (.int (16 : Int32))]))
                                  refine Gl.go ?_ (BA.len B_R X71 hx hZ e71 (g := (mkF m 6 #[.val (.int u), .val (.int (16 : Int32))] [(.ref aR), (.int (16 : Int32))])) rfl rfl (hb hby d1_6))
                                  show Gl _ _ _ _ (T71.setTop (mkF m 7 #[.val (.int u), .val (.int (16 : Int32))] [(.int (32 : Int32)), (.int (16 : Int32))]))
                                  refine Gl.go ?_ (fun t k => XS.icmpNo X71.here hx rfl (hb hby d1_7) rfl (tlt (by decide : (16 : Int32) < (32 : Int32))).2.1 k)
                                  show Gl _ _ _ _ (T71.setTop (mkF m 10 #[.val (.int u), .val (.int (16 : Int32))] []))
                                  refine Gl.go ?_ (fun t k => XS.iloadN X71.here hx rfl (hb hby d1_10) rfl k)
                                  show Gl _ _ _ _ (T71.setTop (mkF m 11 #[.val (.int u), .val (.int (16 : Int32))] [(.int u)]))
                                  obtain ⟨T72, X72, e72, st72⟩ := getS2 X71 hx hZ hown (host := "") (Or.inl (hw _ (List.mem_of_getElem? (i := 14) rfl))) Via.refl e71 S_R (g := (mkF m 11 #[.val (.int u), .val (.int (16 : Int32))] [(.int u)])) rfl (hb hby d1_11)
                                  refine Gl.go ?_ st72
                                  show Gl _ _ _ _ (T72.setTop (mkF m 14 #[.val (.int u), .val (.int (16 : Int32))] [(.ref aR), (.int u)]))
                                  refine Gl.go ?_ (fun t k => XS.iloadN X72.here hx rfl (hb hby d1_14) rfl k)
                                  show Gl _ _ _ _ (T72.setTop (mkF m 15 #[.val (.int u), .val (.int (16 : Int32))] [(.int (16 : Int32)), (.ref aR), (.int u)]))
                                  refine Gl.go ?_ (BA.rdI B_R X72 hx hZ e72 (by decide) (by decide) (g := (mkF m 15 #[.val (.int u), .val (.int (16 : Int32))] [(.int (16 : Int32)), (.ref aR), (.int u)])) rfl rfl (hb hby d1_15))
                                  show Gl _ _ _ _ (T72.setTop (mkF m 16 #[.val (.int u), .val (.int (16 : Int32))] [(.int (895 : Int32)), (.int u)]))
                                  by_cases hc73 : u < (895 : Int32)
                                  · refine Gl.go ?_ (fun t k => XS.icmpNo X72.here hx rfl (hb hby d1_16) rfl (tlt hc73).2.1 k)
                                    show Gl _ _ _ _ (T72.setTop (mkF m 19 #[.val (.int u), .val (.int (16 : Int32))] []))
                                    refine Gl.go ?_ (fun t k => XS.iconst X72.here hx rfl (hb hby d1_19) k)
                                    show Gl _ _ _ _ (T72.setTop (mkF m 20 #[.val (.int u), .val (.int (16 : Int32))] [(.int (0 : Int32))]))
                                    obtain ⟨fs, hr, hrun, hended, hW, hsame⟩ := X72.leave (v := some (.int (0 : Int32))) (fun h => by rw [Bd.returns] at h; cases h) (BodyLoose.notSynchronized Bd)
                                    exact Gl.mk ⟨_, _, retN X72 hx (t := .boolean) Bd.returns (by simp) (hb hby d1_20) hr, hrun, hended, _, _, rfl, ⟨congrArg (fun z => some (Value.int z)) ((if_neg hc33).trans ((if_pos hc35).trans ((if_neg hc38).trans ((if_pos hc40).trans ((if_neg hc43).trans ((if_pos hc45).trans ((if_neg hc48).trans ((if_pos hc50).trans ((if_neg hc53).trans ((if_pos hc55).trans ((if_neg hc58).trans ((if_pos hc60).trans ((if_neg hc63).trans ((if_pos hc65).trans ((if_neg hc68).trans ((if_pos hc70).trans ((if_pos hc73).trans (rfl)))))))))))))))))).symm, rfl, e72⟩, ⟨_, rfl⟩, hW, hsame.mono (by decide) (by decide)⟩
                                  · refine Gl.go ?_ (fun t k => XS.icmpYes X72.here hx rfl (pc0 := 16) (pc' := 21) rfl (hb hby d1_16) rfl (flt hc73).2.1 (by decide) (by decide) k)
                                    show Gl _ _ _ _ (T72.setTop (mkF m 21 #[.val (.int u), .val (.int (16 : Int32))] []))
                                    refine Gl.go ?_ (fun t k => XS.iloadN X72.here hx rfl (hb hby d1_21) rfl k)
                                    show Gl _ _ _ _ (T72.setTop (mkF m 22 #[.val (.int u), .val (.int (16 : Int32))] [(.int u)]))
                                    obtain ⟨T74, X74, e74, st74⟩ := getS2 X72 hx hZ hown (host := "") (Or.inl (hw _ (List.mem_of_getElem? (i := 14) rfl))) Via.refl e72 S_R (g := (mkF m 22 #[.val (.int u), .val (.int (16 : Int32))] [(.int u)])) rfl (hb hby d1_22)
                                    refine Gl.go ?_ st74
                                    show Gl _ _ _ _ (T74.setTop (mkF m 25 #[.val (.int u), .val (.int (16 : Int32))] [(.ref aR), (.int u)]))
                                    refine Gl.go ?_ (fun t k => XS.iloadN X74.here hx rfl (hb hby d1_25) rfl k)
                                    show Gl _ _ _ _ (T74.setTop (mkF m 26 #[.val (.int u), .val (.int (16 : Int32))] [(.int (16 : Int32)), (.ref aR), (.int u)]))
                                    refine Gl.go ?_ (fun t k => XS.iconst X74.here hx rfl (hb hby d1_26) k)
                                    show Gl _ _ _ _ (T74.setTop (mkF m 27 #[.val (.int u), .val (.int (16 : Int32))] [(.int (1 : Int32)), (.int (16 : Int32)), (.ref aR), (.int u)]))
                                    refine Gl.go ?_ (fun t k => XS.iadd X74.here hx rfl (hb hby d1_27) rfl k)
                                    show Gl _ _ _ _ (T74.setTop (mkF m 28 #[.val (.int u), .val (.int (16 : Int32))] [(.int (17 : Int32)), (.ref aR), (.int u)]))
                                    refine Gl.go ?_ (BA.rdI B_R X74 hx hZ e74 (by decide) (by decide) (g := (mkF m 28 #[.val (.int u), .val (.int (16 : Int32))] [(.int (17 : Int32)), (.ref aR), (.int u)])) rfl rfl (hb hby d1_28))
                                    show Gl _ _ _ _ (T74.setTop (mkF m 29 #[.val (.int u), .val (.int (16 : Int32))] [(.int (8191 : Int32)), (.int u)]))
                                    by_cases hc75 : (8191 : Int32) < u
                                    · refine Gl.go ?_ (fun t k => XS.icmpYes X74.here hx rfl (pc0 := 29) (pc' := 34) rfl (hb hby d1_29) rfl (tlt hc75).2.2.1 (by decide) (by decide) k)
                                      show Gl _ _ _ _ (T74.setTop (mkF m 34 #[.val (.int u), .val (.int (16 : Int32))] []))
                                      refine Gl.go ?_ (fun t k => XS.iinc X74.here hx rfl (hb hby d1_34) rfl (l' := #[.val (.int u), .val (.int (18 : Int32))]) rfl k)
                                      show Gl _ _ _ _ (T74.setTop (mkF m 37 #[.val (.int u), .val (.int (18 : Int32))] []))
                                      refine Gl.go ?_ (fun t k => XS.goto X74.here hx rfl (pc0 := 37) (pc' := 2) rfl (hb hby d1_37) (by decide) (by decide) k)
                                      show Gl _ _ _ _ (T74.setTop (mkF m 2 #[.val (.int u), .val (.int (18 : Int32))] []))
                                      refine Gl.go ?_ (fun t k => XS.iloadN X74.here hx rfl (hb hby d1_2) rfl k)
                                      show Gl _ _ _ _ (T74.setTop (mkF m 3 #[.val (.int u), .val (.int (18 : Int32))] [(.int (18 : Int32))]))
                                      obtain ⟨T76, X76, e76, st76⟩ := getS2 X74 hx hZ hown (host := "") (Or.inl (hw _ (List.mem_of_getElem? (i := 14) rfl))) Via.refl e74 S_R (g := (mkF m 3 #[.val (.int u), .val (.int (18 : Int32))] [(.int (18 : Int32))])) rfl (hb hby d1_3)
                                      refine Gl.go ?_ st76
                                      show Gl _ _ _ _ (T76.setTop (mkF m 6 #[.val (.int u), .val (.int (18 : Int32))] [(.ref aR), (.int (18 : Int32))]))
                                      refine Gl.go ?_ (BA.len B_R X76 hx hZ e76 (g := (mkF m 6 #[.val (.int u), .val (.int (18 : Int32))] [(.ref aR), (.int (18 : Int32))])) rfl rfl (hb hby d1_6))
                                      show Gl _ _ _ _ (T76.setTop (mkF m 7 #[.val (.int u), .val (.int (18 : Int32))] [(.int (32 : Int32)), (.int (18 : Int32))]))
                                      refine Gl.go ?_ (fun t k => XS.icmpNo X76.here hx rfl (hb hby d1_7) rfl (tlt (by decide : (18 : Int32) < (32 : Int32))).2.1 k)
                                      show Gl _ _ _ _ (T76.setTop (mkF m 10 #[.val (.int u), .val (.int (18 : Int32))] []))
                                      refine Gl.go ?_ (fun t k => XS.iloadN X76.here hx rfl (hb hby d1_10) rfl k)
                                      show Gl _ _ _ _ (T76.setTop (mkF m 11 #[.val (.int u), .val (.int (18 : Int32))] [(.int u)]))
                                      obtain ⟨T77, X77, e77, st77⟩ := getS2 X76 hx hZ hown (host := "") (Or.inl (hw _ (List.mem_of_getElem? (i := 14) rfl))) Via.refl e76 S_R (g := (mkF m 11 #[.val (.int u), .val (.int (18 : Int32))] [(.int u)])) rfl (hb hby d1_11)
                                      refine Gl.go ?_ st77
                                      show Gl _ _ _ _ (T77.setTop (mkF m 14 #[.val (.int u), .val (.int (18 : Int32))] [(.ref aR), (.int u)]))
                                      refine Gl.go ?_ (fun t k => XS.iloadN X77.here hx rfl (hb hby d1_14) rfl k)
                                      show Gl _ _ _ _ (T77.setTop (mkF m 15 #[.val (.int u), .val (.int (18 : Int32))] [(.int (18 : Int32)), (.ref aR), (.int u)]))
                                      refine Gl.go ?_ (BA.rdI B_R X77 hx hZ e77 (by decide) (by decide) (g := (mkF m 15 #[.val (.int u), .val (.int (18 : Int32))] [(.int (18 : Int32)), (.ref aR), (.int u)])) rfl rfl (hb hby d1_15))
                                      show Gl _ _ _ _ (T77.setTop (mkF m 16 #[.val (.int u), .val (.int (18 : Int32))] [(.int (8204 : Int32)), (.int u)]))
                                      by_cases hc78 : u < (8204 : Int32)
                                      · refine Gl.go ?_ (fun t k => XS.icmpNo X77.here hx rfl (hb hby d1_16) rfl (tlt hc78).2.1 k)
                                        show Gl _ _ _ _ (T77.setTop (mkF m 19 #[.val (.int u), .val (.int (18 : Int32))] []))
                                        refine Gl.go ?_ (fun t k => XS.iconst X77.here hx rfl (hb hby d1_19) k)
                                        show Gl _ _ _ _ (T77.setTop (mkF m 20 #[.val (.int u), .val (.int (18 : Int32))] [(.int (0 : Int32))]))
                                        obtain ⟨fs, hr, hrun, hended, hW, hsame⟩ := X77.leave (v := some (.int (0 : Int32))) (fun h => by rw [Bd.returns] at h; cases h) (BodyLoose.notSynchronized Bd)
                                        exact Gl.mk ⟨_, _, retN X77 hx (t := .boolean) Bd.returns (by simp) (hb hby d1_20) hr, hrun, hended, _, _, rfl, ⟨congrArg (fun z => some (Value.int z)) ((if_neg hc33).trans ((if_pos hc35).trans ((if_neg hc38).trans ((if_pos hc40).trans ((if_neg hc43).trans ((if_pos hc45).trans ((if_neg hc48).trans ((if_pos hc50).trans ((if_neg hc53).trans ((if_pos hc55).trans ((if_neg hc58).trans ((if_pos hc60).trans ((if_neg hc63).trans ((if_pos hc65).trans ((if_neg hc68).trans ((if_pos hc70).trans ((if_neg hc73).trans ((if_pos hc75).trans ((if_pos hc78).trans (rfl)))))))))))))))))))).symm, rfl, e77⟩, ⟨_, rfl⟩, hW, hsame.mono (by decide) (by decide)⟩
                                      · refine Gl.go ?_ (fun t k => XS.icmpYes X77.here hx rfl (pc0 := 16) (pc' := 21) rfl (hb hby d1_16) rfl (flt hc78).2.1 (by decide) (by decide) k)
                                        show Gl _ _ _ _ (T77.setTop (mkF m 21 #[.val (.int u), .val (.int (18 : Int32))] []))
                                        refine Gl.go ?_ (fun t k => XS.iloadN X77.here hx rfl (hb hby d1_21) rfl k)
                                        show Gl _ _ _ _ (T77.setTop (mkF m 22 #[.val (.int u), .val (.int (18 : Int32))] [(.int u)]))
                                        obtain ⟨T79, X79, e79, st79⟩ := getS2 X77 hx hZ hown (host := "") (Or.inl (hw _ (List.mem_of_getElem? (i := 14) rfl))) Via.refl e77 S_R (g := (mkF m 22 #[.val (.int u), .val (.int (18 : Int32))] [(.int u)])) rfl (hb hby d1_22)
                                        refine Gl.go ?_ st79
                                        show Gl _ _ _ _ (T79.setTop (mkF m 25 #[.val (.int u), .val (.int (18 : Int32))] [(.ref aR), (.int u)]))
                                        refine Gl.go ?_ (fun t k => XS.iloadN X79.here hx rfl (hb hby d1_25) rfl k)
                                        show Gl _ _ _ _ (T79.setTop (mkF m 26 #[.val (.int u), .val (.int (18 : Int32))] [(.int (18 : Int32)), (.ref aR), (.int u)]))
                                        refine Gl.go ?_ (fun t k => XS.iconst X79.here hx rfl (hb hby d1_26) k)
                                        show Gl _ _ _ _ (T79.setTop (mkF m 27 #[.val (.int u), .val (.int (18 : Int32))] [(.int (1 : Int32)), (.int (18 : Int32)), (.ref aR), (.int u)]))
                                        refine Gl.go ?_ (fun t k => XS.iadd X79.here hx rfl (hb hby d1_27) rfl k)
                                        show Gl _ _ _ _ (T79.setTop (mkF m 28 #[.val (.int u), .val (.int (18 : Int32))] [(.int (19 : Int32)), (.ref aR), (.int u)]))
                                        refine Gl.go ?_ (BA.rdI B_R X79 hx hZ e79 (by decide) (by decide) (g := (mkF m 28 #[.val (.int u), .val (.int (18 : Int32))] [(.int (19 : Int32)), (.ref aR), (.int u)])) rfl rfl (hb hby d1_28))
                                        show Gl _ _ _ _ (T79.setTop (mkF m 29 #[.val (.int u), .val (.int (18 : Int32))] [(.int (8205 : Int32)), (.int u)]))
                                        by_cases hc80 : (8205 : Int32) < u
                                        · refine Gl.go ?_ (fun t k => XS.icmpYes X79.here hx rfl (pc0 := 29) (pc' := 34) rfl (hb hby d1_29) rfl (tlt hc80).2.2.1 (by decide) (by decide) k)
                                          show Gl _ _ _ _ (T79.setTop (mkF m 34 #[.val (.int u), .val (.int (18 : Int32))] []))
                                          refine Gl.go ?_ (fun t k => XS.iinc X79.here hx rfl (hb hby d1_34) rfl (l' := #[.val (.int u), .val (.int (20 : Int32))]) rfl k)
                                          show Gl _ _ _ _ (T79.setTop (mkF m 37 #[.val (.int u), .val (.int (20 : Int32))] []))
                                          refine Gl.go ?_ (fun t k => XS.goto X79.here hx rfl (pc0 := 37) (pc' := 2) rfl (hb hby d1_37) (by decide) (by decide) k)
                                          show Gl _ _ _ _ (T79.setTop (mkF m 2 #[.val (.int u), .val (.int (20 : Int32))] []))
                                          refine Gl.go ?_ (fun t k => XS.iloadN X79.here hx rfl (hb hby d1_2) rfl k)
                                          show Gl _ _ _ _ (T79.setTop (mkF m 3 #[.val (.int u), .val (.int (20 : Int32))] [(.int (20 : Int32))]))
                                          obtain ⟨T81, X81, e81, st81⟩ := getS2 X79 hx hZ hown (host := "") (Or.inl (hw _ (List.mem_of_getElem? (i := 14) rfl))) Via.refl e79 S_R (g := (mkF m 3 #[.val (.int u), .val (.int (20 : Int32))] [(.int (20 : Int32))])) rfl (hb hby d1_3)
                                          refine Gl.go ?_ st81
                                          show Gl _ _ _ _ (T81.setTop (mkF m 6 #[.val (.int u), .val (.int (20 : Int32))] [(.ref aR), (.int (20 : Int32))]))
                                          refine Gl.go ?_ (BA.len B_R X81 hx hZ e81 (g := (mkF m 6 #[.val (.int u), .val (.int (20 : Int32))] [(.ref aR), (.int (20 : Int32))])) rfl rfl (hb hby d1_6))
                                          show Gl _ _ _ _ (T81.setTop (mkF m 7 #[.val (.int u), .val (.int (20 : Int32))] [(.int (32 : Int32)), (.int (20 : Int32))]))
                                          refine Gl.go ?_ (fun t k => XS.icmpNo X81.here hx rfl (hb hby d1_7) rfl (tlt (by decide : (20 : Int32) < (32 : Int32))).2.1 k)
                                          show Gl _ _ _ _ (T81.setTop (mkF m 10 #[.val (.int u), .val (.int (20 : Int32))] []))
                                          refine Gl.go ?_ (fun t k => XS.iloadN X81.here hx rfl (hb hby d1_10) rfl k)
                                          show Gl _ _ _ _ (T81.setTop (mkF m 11 #[.val (.int u), .val (.int (20 : Int32))] [(.int u)]))
                                          obtain ⟨T82, X82, e82, st82⟩ := getS2 X81 hx hZ hown (host := "") (Or.inl (hw _ (List.mem_of_getElem? (i := 14) rfl))) Via.refl e81 S_R (g := (mkF m 11 #[.val (.int u), .val (.int (20 : Int32))] [(.int u)])) rfl (hb hby d1_11)
                                          refine Gl.go ?_ st82
                                          show Gl _ _ _ _ (T82.setTop (mkF m 14 #[.val (.int u), .val (.int (20 : Int32))] [(.ref aR), (.int u)]))
                                          refine Gl.go ?_ (fun t k => XS.iloadN X82.here hx rfl (hb hby d1_14) rfl k)
                                          show Gl _ _ _ _ (T82.setTop (mkF m 15 #[.val (.int u), .val (.int (20 : Int32))] [(.int (20 : Int32)), (.ref aR), (.int u)]))
                                          refine Gl.go ?_ (BA.rdI B_R X82 hx hZ e82 (by decide) (by decide) (g := (mkF m 15 #[.val (.int u), .val (.int (20 : Int32))] [(.int (20 : Int32)), (.ref aR), (.int u)])) rfl rfl (hb hby d1_15))
                                          show Gl _ _ _ _ (T82.setTop (mkF m 16 #[.val (.int u), .val (.int (20 : Int32))] [(.int (8304 : Int32)), (.int u)]))
                                          by_cases hc83 : u < (8304 : Int32)
                                          · refine Gl.go ?_ (fun t k => XS.icmpNo X82.here hx rfl (hb hby d1_16) rfl (tlt hc83).2.1 k)
                                            show Gl _ _ _ _ (T82.setTop (mkF m 19 #[.val (.int u), .val (.int (20 : Int32))] []))
                                            refine Gl.go ?_ (fun t k => XS.iconst X82.here hx rfl (hb hby d1_19) k)
                                            show Gl _ _ _ _ (T82.setTop (mkF m 20 #[.val (.int u), .val (.int (20 : Int32))] [(.int (0 : Int32))]))
                                            obtain ⟨fs, hr, hrun, hended, hW, hsame⟩ := X82.leave (v := some (.int (0 : Int32))) (fun h => by rw [Bd.returns] at h; cases h) (BodyLoose.notSynchronized Bd)
                                            exact Gl.mk ⟨_, _, retN X82 hx (t := .boolean) Bd.returns (by simp) (hb hby d1_20) hr, hrun, hended, _, _, rfl, ⟨congrArg (fun z => some (Value.int z)) ((if_neg hc33).trans ((if_pos hc35).trans ((if_neg hc38).trans ((if_pos hc40).trans ((if_neg hc43).trans ((if_pos hc45).trans ((if_neg hc48).trans ((if_pos hc50).trans ((if_neg hc53).trans ((if_pos hc55).trans ((if_neg hc58).trans ((if_pos hc60).trans ((if_neg hc63).trans ((if_pos hc65).trans ((if_neg hc68).trans ((if_pos hc70).trans ((if_neg hc73).trans ((if_pos hc75).trans ((if_neg hc78).trans ((if_pos hc80).trans ((if_pos hc83).trans (rfl)))))))))))))))))))))).symm, rfl, e82⟩, ⟨_, rfl⟩, hW, hsame.mono (by decide) (by decide)⟩
                                          · refine Gl.go ?_ (fun t k => XS.icmpYes X82.here hx rfl (pc0 := 16) (pc' := 21) rfl (hb hby d1_16) rfl (flt hc83).2.1 (by decide) (by decide) k)
                                            show Gl _ _ _ _ (T82.setTop (mkF m 21 #[.val (.int u), .val (.int (20 : Int32))] []))
                                            refine Gl.go ?_ (fun t k => XS.iloadN X82.here hx rfl (hb hby d1_21) rfl k)
                                            show Gl _ _ _ _ (T82.setTop (mkF m 22 #[.val (.int u), .val (.int (20 : Int32))] [(.int u)]))
                                            obtain ⟨T84, X84, e84, st84⟩ := getS2 X82 hx hZ hown (host := "") (Or.inl (hw _ (List.mem_of_getElem? (i := 14) rfl))) Via.refl e82 S_R (g := (mkF m 22 #[.val (.int u), .val (.int (20 : Int32))] [(.int u)])) rfl (hb hby d1_22)
                                            refine Gl.go ?_ st84
                                            show Gl _ _ _ _ (T84.setTop (mkF m 25 #[.val (.int u), .val (.int (20 : Int32))] [(.ref aR), (.int u)]))
                                            refine Gl.go ?_ (fun t k => XS.iloadN X84.here hx rfl (hb hby d1_25) rfl k)
                                            show Gl _ _ _ _ (T84.setTop (mkF m 26 #[.val (.int u), .val (.int (20 : Int32))] [(.int (20 : Int32)), (.ref aR), (.int u)]))
                                            refine Gl.go ?_ (fun t k => XS.iconst X84.here hx rfl (hb hby d1_26) k)
                                            show Gl _ _ _ _ (T84.setTop (mkF m 27 #[.val (.int u), .val (.int (20 : Int32))] [(.int (1 : Int32)), (.int (20 : Int32)), (.ref aR), (.int u)]))
                                            refine Gl.go ?_ (fun t k => XS.iadd X84.here hx rfl (hb hby d1_27) rfl k)
                                            show Gl _ _ _ _ (T84.setTop (mkF m 28 #[.val (.int u), .val (.int (20 : Int32))] [(.int (21 : Int32)), (.ref aR), (.int u)]))
                                            refine Gl.go ?_ (BA.rdI B_R X84 hx hZ e84 (by decide) (by decide) (g := (mkF m 28 #[.val (.int u), .val (.int (20 : Int32))] [(.int (21 : Int32)), (.ref aR), (.int u)])) rfl rfl (hb hby d1_28))
                                            show Gl _ _ _ _ (T84.setTop (mkF m 29 #[.val (.int u), .val (.int (20 : Int32))] [(.int (8591 : Int32)), (.int u)]))
                                            by_cases hc85 : (8591 : Int32) < u
                                            · refine Gl.go ?_ (fun t k => XS.icmpYes X84.here hx rfl (pc0 := 29) (pc' := 34) rfl (hb hby d1_29) rfl (tlt hc85).2.2.1 (by decide) (by decide) k)
                                              show Gl _ _ _ _ (T84.setTop (mkF m 34 #[.val (.int u), .val (.int (20 : Int32))] []))
                                              refine Gl.go ?_ (fun t k => XS.iinc X84.here hx rfl (hb hby d1_34) rfl (l' := #[.val (.int u), .val (.int (22 : Int32))]) rfl k)
                                              show Gl _ _ _ _ (T84.setTop (mkF m 37 #[.val (.int u), .val (.int (22 : Int32))] []))
                                              refine Gl.go ?_ (fun t k => XS.goto X84.here hx rfl (pc0 := 37) (pc' := 2) rfl (hb hby d1_37) (by decide) (by decide) k)
                                              show Gl _ _ _ _ (T84.setTop (mkF m 2 #[.val (.int u), .val (.int (22 : Int32))] []))
                                              refine Gl.go ?_ (fun t k => XS.iloadN X84.here hx rfl (hb hby d1_2) rfl k)
                                              show Gl _ _ _ _ (T84.setTop (mkF m 3 #[.val (.int u), .val (.int (22 : Int32))] [(.int (22 : Int32))]))
                                              obtain ⟨T86, X86, e86, st86⟩ := getS2 X84 hx hZ hown (host := "") (Or.inl (hw _ (List.mem_of_getElem? (i := 14) rfl))) Via.refl e84 S_R (g := (mkF m 3 #[.val (.int u), .val (.int (22 : Int32))] [(.int (22 : Int32))])) rfl (hb hby d1_3)
                                              refine Gl.go ?_ st86
                                              show Gl _ _ _ _ (T86.setTop (mkF m 6 #[.val (.int u), .val (.int (22 : Int32))] [(.ref aR), (.int (22 : Int32))]))
                                              refine Gl.go ?_ (BA.len B_R X86 hx hZ e86 (g := (mkF m 6 #[.val (.int u), .val (.int (22 : Int32))] [(.ref aR), (.int (22 : Int32))])) rfl rfl (hb hby d1_6))
                                              show Gl _ _ _ _ (T86.setTop (mkF m 7 #[.val (.int u), .val (.int (22 : Int32))] [(.int (32 : Int32)), (.int (22 : Int32))]))
                                              refine Gl.go ?_ (fun t k => XS.icmpNo X86.here hx rfl (hb hby d1_7) rfl (tlt (by decide : (22 : Int32) < (32 : Int32))).2.1 k)
                                              show Gl _ _ _ _ (T86.setTop (mkF m 10 #[.val (.int u), .val (.int (22 : Int32))] []))
                                              refine Gl.go ?_ (fun t k => XS.iloadN X86.here hx rfl (hb hby d1_10) rfl k)
                                              show Gl _ _ _ _ (T86.setTop (mkF m 11 #[.val (.int u), .val (.int (22 : Int32))] [(.int u)]))
                                              obtain ⟨T87, X87, e87, st87⟩ := getS2 X86 hx hZ hown (host := "") (Or.inl (hw _ (List.mem_of_getElem? (i := 14) rfl))) Via.refl e86 S_R (g := (mkF m 11 #[.val (.int u), .val (.int (22 : Int32))] [(.int u)])) rfl (hb hby d1_11)
                                              refine Gl.go ?_ st87
                                              show Gl _ _ _ _ (T87.setTop (mkF m 14 #[.val (.int u), .val (.int (22 : Int32))] [(.ref aR), (.int u)]))
                                              refine Gl.go ?_ (fun t k => XS.iloadN X87.here hx rfl (hb hby d1_14) rfl k)
                                              show Gl _ _ _ _ (T87.setTop (mkF m 15 #[.val (.int u), .val (.int (22 : Int32))] [(.int (22 : Int32)), (.ref aR), (.int u)]))
                                              refine Gl.go ?_ (BA.rdI B_R X87 hx hZ e87 (by decide) (by decide) (g := (mkF m 15 #[.val (.int u), .val (.int (22 : Int32))] [(.int (22 : Int32)), (.ref aR), (.int u)])) rfl rfl (hb hby d1_15))
                                              show Gl _ _ _ _ (T87.setTop (mkF m 16 #[.val (.int u), .val (.int (22 : Int32))] [(.int (11264 : Int32)), (.int u)]))
                                              by_cases hc88 : u < (11264 : Int32)
                                              · refine Gl.go ?_ (fun t k => XS.icmpNo X87.here hx rfl (hb hby d1_16) rfl (tlt hc88).2.1 k)
                                                show Gl _ _ _ _ (T87.setTop (mkF m 19 #[.val (.int u), .val (.int (22 : Int32))] []))
                                                refine Gl.go ?_ (fun t k => XS.iconst X87.here hx rfl (hb hby d1_19) k)
                                                show Gl _ _ _ _ (T87.setTop (mkF m 20 #[.val (.int u), .val (.int (22 : Int32))] [(.int (0 : Int32))]))
                                                obtain ⟨fs, hr, hrun, hended, hW, hsame⟩ := X87.leave (v := some (.int (0 : Int32))) (fun h => by rw [Bd.returns] at h; cases h) (BodyLoose.notSynchronized Bd)
                                                exact Gl.mk ⟨_, _, retN X87 hx (t := .boolean) Bd.returns (by simp) (hb hby d1_20) hr, hrun, hended, _, _, rfl, ⟨congrArg (fun z => some (Value.int z)) ((if_neg hc33).trans ((if_pos hc35).trans ((if_neg hc38).trans ((if_pos hc40).trans ((if_neg hc43).trans ((if_pos hc45).trans ((if_neg hc48).trans ((if_pos hc50).trans ((if_neg hc53).trans ((if_pos hc55).trans ((if_neg hc58).trans ((if_pos hc60).trans ((if_neg hc63).trans ((if_pos hc65).trans ((if_neg hc68).trans ((if_pos hc70).trans ((if_neg hc73).trans ((if_pos hc75).trans ((if_neg hc78).trans ((if_pos hc80).trans ((if_neg hc83).trans ((if_pos hc85).trans ((if_pos hc88).trans (rfl)))))))))))))))))))))))).symm, rfl, e87⟩, ⟨_, rfl⟩, hW, hsame.mono (by decide) (by decide)⟩
                                              · refine Gl.go ?_ (fun t k => XS.icmpYes X87.here hx rfl (pc0 := 16) (pc' := 21) rfl (hb hby d1_16) rfl (flt hc88).2.1 (by decide) (by decide) k)
                                                show Gl _ _ _ _ (T87.setTop (mkF m 21 #[.val (.int u), .val (.int (22 : Int32))] []))
                                                refine Gl.go ?_ (fun t k => XS.iloadN X87.here hx rfl (hb hby d1_21) rfl k)
                                                show Gl _ _ _ _ (T87.setTop (mkF m 22 #[.val (.int u), .val (.int (22 : Int32))] [(.int u)]))
                                                obtain ⟨T89, X89, e89, st89⟩ := getS2 X87 hx hZ hown (host := "") (Or.inl (hw _ (List.mem_of_getElem? (i := 14) rfl))) Via.refl e87 S_R (g := (mkF m 22 #[.val (.int u), .val (.int (22 : Int32))] [(.int u)])) rfl (hb hby d1_22)
                                                refine Gl.go ?_ st89
                                                show Gl _ _ _ _ (T89.setTop (mkF m 25 #[.val (.int u), .val (.int (22 : Int32))] [(.ref aR), (.int u)]))
                                                refine Gl.go ?_ (fun t k => XS.iloadN X89.here hx rfl (hb hby d1_25) rfl k)
                                                show Gl _ _ _ _ (T89.setTop (mkF m 26 #[.val (.int u), .val (.int (22 : Int32))] [(.int (22 : Int32)), (.ref aR), (.int u)]))
                                                refine Gl.go ?_ (fun t k => XS.iconst X89.here hx rfl (hb hby d1_26) k)
                                                show Gl _ _ _ _ (T89.setTop (mkF m 27 #[.val (.int u), .val (.int (22 : Int32))] [(.int (1 : Int32)), (.int (22 : Int32)), (.ref aR), (.int u)]))
                                                refine Gl.go ?_ (fun t k => XS.iadd X89.here hx rfl (hb hby d1_27) rfl k)
                                                show Gl _ _ _ _ (T89.setTop (mkF m 28 #[.val (.int u), .val (.int (22 : Int32))] [(.int (23 : Int32)), (.ref aR), (.int u)]))
                                                refine Gl.go ?_ (BA.rdI B_R X89 hx hZ e89 (by decide) (by decide) (g := (mkF m 28 #[.val (.int u), .val (.int (22 : Int32))] [(.int (23 : Int32)), (.ref aR), (.int u)])) rfl rfl (hb hby d1_28))
                                                show Gl _ _ _ _ (T89.setTop (mkF m 29 #[.val (.int u), .val (.int (22 : Int32))] [(.int (12271 : Int32)), (.int u)]))
                                                by_cases hc90 : (12271 : Int32) < u
                                                · refine Gl.go ?_ (fun t k => XS.icmpYes X89.here hx rfl (pc0 := 29) (pc' := 34) rfl (hb hby d1_29) rfl (tlt hc90).2.2.1 (by decide) (by decide) k)
                                                  show Gl _ _ _ _ (T89.setTop (mkF m 34 #[.val (.int u), .val (.int (22 : Int32))] []))
                                                  refine Gl.go ?_ (fun t k => XS.iinc X89.here hx rfl (hb hby d1_34) rfl (l' := #[.val (.int u), .val (.int (24 : Int32))]) rfl k)
                                                  show Gl _ _ _ _ (T89.setTop (mkF m 37 #[.val (.int u), .val (.int (24 : Int32))] []))
                                                  refine Gl.go ?_ (fun t k => XS.goto X89.here hx rfl (pc0 := 37) (pc' := 2) rfl (hb hby d1_37) (by decide) (by decide) k)
                                                  show Gl _ _ _ _ (T89.setTop (mkF m 2 #[.val (.int u), .val (.int (24 : Int32))] []))
                                                  refine Gl.go ?_ (fun t k => XS.iloadN X89.here hx rfl (hb hby d1_2) rfl k)
                                                  show Gl _ _ _ _ (T89.setTop (mkF m 3 #[.val (.int u), .val (.int (24 : Int32))] [(.int (24 : Int32))]))
                                                  obtain ⟨T91, X91, e91, st91⟩ := getS2 X89 hx hZ hown (host := "") (Or.inl (hw _ (List.mem_of_getElem? (i := 14) rfl))) Via.refl e89 S_R (g := (mkF m 3 #[.val (.int u), .val (.int (24 : Int32))] [(.int (24 : Int32))])) rfl (hb hby d1_3)
                                                  refine Gl.go ?_ st91
                                                  show Gl _ _ _ _ (T91.setTop (mkF m 6 #[.val (.int u), .val (.int (24 : Int32))] [(.ref aR), (.int (24 : Int32))]))
                                                  refine Gl.go ?_ (BA.len B_R X91 hx hZ e91 (g := (mkF m 6 #[.val (.int u), .val (.int (24 : Int32))] [(.ref aR), (.int (24 : Int32))])) rfl rfl (hb hby d1_6))
                                                  show Gl _ _ _ _ (T91.setTop (mkF m 7 #[.val (.int u), .val (.int (24 : Int32))] [(.int (32 : Int32)), (.int (24 : Int32))]))
                                                  refine Gl.go ?_ (fun t k => XS.icmpNo X91.here hx rfl (hb hby d1_7) rfl (tlt (by decide : (24 : Int32) < (32 : Int32))).2.1 k)
                                                  show Gl _ _ _ _ (T91.setTop (mkF m 10 #[.val (.int u), .val (.int (24 : Int32))] []))
                                                  refine Gl.go ?_ (fun t k => XS.iloadN X91.here hx rfl (hb hby d1_10) rfl k)
                                                  show Gl _ _ _ _ (T91.setTop (mkF m 11 #[.val (.int u), .val (.int (24 : Int32))] [(.int u)]))
                                                  obtain ⟨T92, X92, e92, st92⟩ := getS2 X91 hx hZ hown (host := "") (Or.inl (hw _ (List.mem_of_getElem? (i := 14) rfl))) Via.refl e91 S_R (g := (mkF m 11 #[.val (.int u), .val (.int (24 : Int32))] [(.int u)])) rfl (hb hby d1_11)
                                                  refine Gl.go ?_ st92
                                                  show Gl _ _ _ _ (T92.setTop (mkF m 14 #[.val (.int u), .val (.int (24 : Int32))] [(.ref aR), (.int u)]))
                                                  refine Gl.go ?_ (fun t k => XS.iloadN X92.here hx rfl (hb hby d1_14) rfl k)
                                                  show Gl _ _ _ _ (T92.setTop (mkF m 15 #[.val (.int u), .val (.int (24 : Int32))] [(.int (24 : Int32)), (.ref aR), (.int u)]))
                                                  refine Gl.go ?_ (BA.rdI B_R X92 hx hZ e92 (by decide) (by decide) (g := (mkF m 15 #[.val (.int u), .val (.int (24 : Int32))] [(.int (24 : Int32)), (.ref aR), (.int u)])) rfl rfl (hb hby d1_15))
                                                  show Gl _ _ _ _ (T92.setTop (mkF m 16 #[.val (.int u), .val (.int (24 : Int32))] [(.int (12289 : Int32)), (.int u)]))
                                                  by_cases hc93 : u < (12289 : Int32)
                                                  · refine Gl.go ?_ (fun t k => XS.icmpNo X92.here hx rfl (hb hby d1_16) rfl (tlt hc93).2.1 k)
                                                    show Gl _ _ _ _ (T92.setTop (mkF m 19 #[.val (.int u), .val (.int (24 : Int32))] []))
                                                    refine Gl.go ?_ (fun t k => XS.iconst X92.here hx rfl (hb hby d1_19) k)
                                                    show Gl _ _ _ _ (T92.setTop (mkF m 20 #[.val (.int u), .val (.int (24 : Int32))] [(.int (0 : Int32))]))
                                                    obtain ⟨fs, hr, hrun, hended, hW, hsame⟩ := X92.leave (v := some (.int (0 : Int32))) (fun h => by rw [Bd.returns] at h; cases h) (BodyLoose.notSynchronized Bd)
                                                    exact Gl.mk ⟨_, _, retN X92 hx (t := .boolean) Bd.returns (by simp) (hb hby d1_20) hr, hrun, hended, _, _, rfl, ⟨congrArg (fun z => some (Value.int z)) ((if_neg hc33).trans ((if_pos hc35).trans ((if_neg hc38).trans ((if_pos hc40).trans ((if_neg hc43).trans ((if_pos hc45).trans ((if_neg hc48).trans ((if_pos hc50).trans ((if_neg hc53).trans ((if_pos hc55).trans ((if_neg hc58).trans ((if_pos hc60).trans ((if_neg hc63).trans ((if_pos hc65).trans ((if_neg hc68).trans ((if_pos hc70).trans ((if_neg hc73).trans ((if_pos hc75).trans ((if_neg hc78).trans ((if_pos hc80).trans ((if_neg hc83).trans ((if_pos hc85).trans ((if_neg hc88).trans ((if_pos hc90).trans ((if_pos hc93).trans (rfl)))))))))))))))))))))))))).symm, rfl, e92⟩, ⟨_, rfl⟩, hW, hsame.mono (by decide) (by decide)⟩
                                                  · refine Gl.go ?_ (fun t k => XS.icmpYes X92.here hx rfl (pc0 := 16) (pc' := 21) rfl (hb hby d1_16) rfl (flt hc93).2.1 (by decide) (by decide) k)
                                                    show Gl _ _ _ _ (T92.setTop (mkF m 21 #[.val (.int u), .val (.int (24 : Int32))] []))
                                                    refine Gl.go ?_ (fun t k => XS.iloadN X92.here hx rfl (hb hby d1_21) rfl k)
                                                    show Gl _ _ _ _ (T92.setTop (mkF m 22 #[.val (.int u), .val (.int (24 : Int32))] [(.int u)]))
                                                    obtain ⟨T94, X94, e94, st94⟩ := getS2 X92 hx hZ hown (host := "") (Or.inl (hw _ (List.mem_of_getElem? (i := 14) rfl))) Via.refl e92 S_R (g := (mkF m 22 #[.val (.int u), .val (.int (24 : Int32))] [(.int u)])) rfl (hb hby d1_22)
                                                    refine Gl.go ?_ st94
                                                    show Gl _ _ _ _ (T94.setTop (mkF m 25 #[.val (.int u), .val (.int (24 : Int32))] [(.ref aR), (.int u)]))
                                                    refine Gl.go ?_ (fun t k => XS.iloadN X94.here hx rfl (hb hby d1_25) rfl k)
                                                    show Gl _ _ _ _ (T94.setTop (mkF m 26 #[.val (.int u), .val (.int (24 : Int32))] [(.int (24 : Int32)), (.ref aR), (.int u)]))
                                                    refine Gl.go ?_ (fun t k => XS.iconst X94.here hx rfl (hb hby d1_26) k)
                                                    show Gl _ _ _ _ (T94.setTop (mkF m 27 #[.val (.int u), .val (.int (24 : Int32))] [(.int (1 : Int32)), (.int (24 : Int32)), (.ref aR), (.int u)]))
                                                    refine Gl.go ?_ (fun t k => XS.iadd X94.here hx rfl (hb hby d1_27) rfl k)
                                                    show Gl _ _ _ _ (T94.setTop (mkF m 28 #[.val (.int u), .val (.int (24 : Int32))] [(.int (25 : Int32)), (.ref aR), (.int u)]))
                                                    refine Gl.go ?_ (BA.rdI B_R X94 hx hZ e94 (by decide) (by decide) (g := (mkF m 28 #[.val (.int u), .val (.int (24 : Int32))] [(.int (25 : Int32)), (.ref aR), (.int u)])) rfl rfl (hb hby d1_28))
                                                    show Gl _ _ _ _ (T94.setTop (mkF m 29 #[.val (.int u), .val (.int (24 : Int32))] [(.int (55295 : Int32)), (.int u)]))
                                                    by_cases hc95 : (55295 : Int32) < u
                                                    · refine Gl.go ?_ (fun t k => XS.icmpYes X94.here hx rfl (pc0 := 29) (pc' := 34) rfl (hb hby d1_29) rfl (tlt hc95).2.2.1 (by decide) (by decide) k)
                                                      show Gl _ _ _ _ (T94.setTop (mkF m 34 #[.val (.int u), .val (.int (24 : Int32))] []))
                                                      refine Gl.go ?_ (fun t k => XS.iinc X94.here hx rfl (hb hby d1_34) rfl (l' := #[.val (.int u), .val (.int (26 : Int32))]) rfl k)
                                                      show Gl _ _ _ _ (T94.setTop (mkF m 37 #[.val (.int u), .val (.int (26 : Int32))] []))
                                                      refine Gl.go ?_ (fun t k => XS.goto X94.here hx rfl (pc0 := 37) (pc' := 2) rfl (hb hby d1_37) (by decide) (by decide) k)
                                                      show Gl _ _ _ _ (T94.setTop (mkF m 2 #[.val (.int u), .val (.int (26 : Int32))] []))
                                                      refine Gl.go ?_ (fun t k => XS.iloadN X94.here hx rfl (hb hby d1_2) rfl k)
                                                      show Gl _ _ _ _ (T94.setTop (mkF m 3 #[.val (.int u), .val (.int (26 : Int32))] [(.int (26 : Int32))]))
                                                      obtain ⟨T96, X96, e96, st96⟩ := getS2 X94 hx hZ hown (host := "") (Or.inl (hw _ (List.mem_of_getElem? (i := 14) rfl))) Via.refl e94 S_R (g := (mkF m 3 #[.val (.int u), .val (.int (26 : Int32))] [(.int (26 : Int32))])) rfl (hb hby d1_3)
                                                      refine Gl.go ?_ st96
                                                      show Gl _ _ _ _ (T96.setTop (mkF m 6 #[.val (.int u), .val (.int (26 : Int32))] [(.ref aR), (.int (26 : Int32))]))
                                                      refine Gl.go ?_ (BA.len B_R X96 hx hZ e96 (g := (mkF m 6 #[.val (.int u), .val (.int (26 : Int32))] [(.ref aR), (.int (26 : Int32))])) rfl rfl (hb hby d1_6))
                                                      show Gl _ _ _ _ (T96.setTop (mkF m 7 #[.val (.int u), .val (.int (26 : Int32))] [(.int (32 : Int32)), (.int (26 : Int32))]))
                                                      refine Gl.go ?_ (fun t k => XS.icmpNo X96.here hx rfl (hb hby d1_7) rfl (tlt (by decide : (26 : Int32) < (32 : Int32))).2.1 k)
                                                      show Gl _ _ _ _ (T96.setTop (mkF m 10 #[.val (.int u), .val (.int (26 : Int32))] []))
                                                      refine Gl.go ?_ (fun t k => XS.iloadN X96.here hx rfl (hb hby d1_10) rfl k)
                                                      show Gl _ _ _ _ (T96.setTop (mkF m 11 #[.val (.int u), .val (.int (26 : Int32))] [(.int u)]))
                                                      obtain ⟨T97, X97, e97, st97⟩ := getS2 X96 hx hZ hown (host := "") (Or.inl (hw _ (List.mem_of_getElem? (i := 14) rfl))) Via.refl e96 S_R (g := (mkF m 11 #[.val (.int u), .val (.int (26 : Int32))] [(.int u)])) rfl (hb hby d1_11)
                                                      refine Gl.go ?_ st97
                                                      show Gl _ _ _ _ (T97.setTop (mkF m 14 #[.val (.int u), .val (.int (26 : Int32))] [(.ref aR), (.int u)]))
                                                      refine Gl.go ?_ (fun t k => XS.iloadN X97.here hx rfl (hb hby d1_14) rfl k)
                                                      show Gl _ _ _ _ (T97.setTop (mkF m 15 #[.val (.int u), .val (.int (26 : Int32))] [(.int (26 : Int32)), (.ref aR), (.int u)]))
                                                      refine Gl.go ?_ (BA.rdI B_R X97 hx hZ e97 (by decide) (by decide) (g := (mkF m 15 #[.val (.int u), .val (.int (26 : Int32))] [(.int (26 : Int32)), (.ref aR), (.int u)])) rfl rfl (hb hby d1_15))
                                                      show Gl _ _ _ _ (T97.setTop (mkF m 16 #[.val (.int u), .val (.int (26 : Int32))] [(.int (63744 : Int32)), (.int u)]))
                                                      by_cases hc98 : u < (63744 : Int32)
                                                      · refine Gl.go ?_ (fun t k => XS.icmpNo X97.here hx rfl (hb hby d1_16) rfl (tlt hc98).2.1 k)
                                                        show Gl _ _ _ _ (T97.setTop (mkF m 19 #[.val (.int u), .val (.int (26 : Int32))] []))
                                                        refine Gl.go ?_ (fun t k => XS.iconst X97.here hx rfl (hb hby d1_19) k)
                                                        show Gl _ _ _ _ (T97.setTop (mkF m 20 #[.val (.int u), .val (.int (26 : Int32))] [(.int (0 : Int32))]))
                                                        obtain ⟨fs, hr, hrun, hended, hW, hsame⟩ := X97.leave (v := some (.int (0 : Int32))) (fun h => by rw [Bd.returns] at h; cases h) (BodyLoose.notSynchronized Bd)
                                                        exact Gl.mk ⟨_, _, retN X97 hx (t := .boolean) Bd.returns (by simp) (hb hby d1_20) hr, hrun, hended, _, _, rfl, ⟨congrArg (fun z => some (Value.int z)) ((if_neg hc33).trans ((if_pos hc35).trans ((if_neg hc38).trans ((if_pos hc40).trans ((if_neg hc43).trans ((if_pos hc45).trans ((if_neg hc48).trans ((if_pos hc50).trans ((if_neg hc53).trans ((if_pos hc55).trans ((if_neg hc58).trans ((if_pos hc60).trans ((if_neg hc63).trans ((if_pos hc65).trans ((if_neg hc68).trans ((if_pos hc70).trans ((if_neg hc73).trans ((if_pos hc75).trans ((if_neg hc78).trans ((if_pos hc80).trans ((if_neg hc83).trans ((if_pos hc85).trans ((if_neg hc88).trans ((if_pos hc90).trans ((if_neg hc93).trans ((if_pos hc95).trans ((if_pos hc98).trans (rfl)))))))))))))))))))))))))))).symm, rfl, e97⟩, ⟨_, rfl⟩, hW, hsame.mono (by decide) (by decide)⟩
                                                      · refine Gl.go ?_ (fun t k => XS.icmpYes X97.here hx rfl (pc0 := 16) (pc' := 21) rfl (hb hby d1_16) rfl (flt hc98).2.1 (by decide) (by decide) k)
                                                        show Gl _ _ _ _ (T97.setTop (mkF m 21 #[.val (.int u), .val (.int (26 : Int32))] []))
                                                        refine Gl.go ?_ (fun t k => XS.iloadN X97.here hx rfl (hb hby d1_21) rfl k)
                                                        show Gl _ _ _ _ (T97.setTop (mkF m 22 #[.val (.int u), .val (.int (26 : Int32))] [(.int u)]))
                                                        obtain ⟨T99, X99, e99, st99⟩ := getS2 X97 hx hZ hown (host := "") (Or.inl (hw _ (List.mem_of_getElem? (i := 14) rfl))) Via.refl e97 S_R (g := (mkF m 22 #[.val (.int u), .val (.int (26 : Int32))] [(.int u)])) rfl (hb hby d1_22)
                                                        refine Gl.go ?_ st99
                                                        show Gl _ _ _ _ (T99.setTop (mkF m 25 #[.val (.int u), .val (.int (26 : Int32))] [(.ref aR), (.int u)]))
                                                        refine Gl.go ?_ (fun t k => XS.iloadN X99.here hx rfl (hb hby d1_25) rfl k)
                                                        show Gl _ _ _ _ (T99.setTop (mkF m 26 #[.val (.int u), .val (.int (26 : Int32))] [(.int (26 : Int32)), (.ref aR), (.int u)]))
                                                        refine Gl.go ?_ (fun t k => XS.iconst X99.here hx rfl (hb hby d1_26) k)
                                                        show Gl _ _ _ _ (T99.setTop (mkF m 27 #[.val (.int u), .val (.int (26 : Int32))] [(.int (1 : Int32)), (.int (26 : Int32)), (.ref aR), (.int u)]))
                                                        refine Gl.go ?_ (fun t k => XS.iadd X99.here hx rfl (hb hby d1_27) rfl k)
                                                        show Gl _ _ _ _ (T99.setTop (mkF m 28 #[.val (.int u), .val (.int (26 : Int32))] [(.int (27 : Int32)), (.ref aR), (.int u)]))
                                                        refine Gl.go ?_ (BA.rdI B_R X99 hx hZ e99 (by decide) (by decide) (g := (mkF m 28 #[.val (.int u), .val (.int (26 : Int32))] [(.int (27 : Int32)), (.ref aR), (.int u)])) rfl rfl (hb hby d1_28))
                                                        show Gl _ _ _ _ (T99.setTop (mkF m 29 #[.val (.int u), .val (.int (26 : Int32))] [(.int (64975 : Int32)), (.int u)]))
                                                        by_cases hc100 : (64975 : Int32) < u
                                                        · refine Gl.go ?_ (fun t k => XS.icmpYes X99.here hx rfl (pc0 := 29) (pc' := 34) rfl (hb hby d1_29) rfl (tlt hc100).2.2.1 (by decide) (by decide) k)
                                                          show Gl _ _ _ _ (T99.setTop (mkF m 34 #[.val (.int u), .val (.int (26 : Int32))] []))
                                                          refine Gl.go ?_ (fun t k => XS.iinc X99.here hx rfl (hb hby d1_34) rfl (l' := #[.val (.int u), .val (.int (28 : Int32))]) rfl k)
                                                          show Gl _ _ _ _ (T99.setTop (mkF m 37 #[.val (.int u), .val (.int (28 : Int32))] []))
                                                          refine Gl.go ?_ (fun t k => XS.goto X99.here hx rfl (pc0 := 37) (pc' := 2) rfl (hb hby d1_37) (by decide) (by decide) k)
                                                          show Gl _ _ _ _ (T99.setTop (mkF m 2 #[.val (.int u), .val (.int (28 : Int32))] []))
                                                          refine Gl.go ?_ (fun t k => XS.iloadN X99.here hx rfl (hb hby d1_2) rfl k)
                                                          show Gl _ _ _ _ (T99.setTop (mkF m 3 #[.val (.int u), .val (.int (28 : Int32))] [(.int (28 : Int32))]))
                                                          obtain ⟨T101, X101, e101, st101⟩ := getS2 X99 hx hZ hown (host := "") (Or.inl (hw _ (List.mem_of_getElem? (i := 14) rfl))) Via.refl e99 S_R (g := (mkF m 3 #[.val (.int u), .val (.int (28 : Int32))] [(.int (28 : Int32))])) rfl (hb hby d1_3)
                                                          refine Gl.go ?_ st101
                                                          show Gl _ _ _ _ (T101.setTop (mkF m 6 #[.val (.int u), .val (.int (28 : Int32))] [(.ref aR), (.int (28 : Int32))]))
                                                          refine Gl.go ?_ (BA.len B_R X101 hx hZ e101 (g := (mkF m 6 #[.val (.int u), .val (.int (28 : Int32))] [(.ref aR), (.int (28 : Int32))])) rfl rfl (hb hby d1_6))
                                                          show Gl _ _ _ _ (T101.setTop (mkF m 7 #[.val (.int u), .val (.int (28 : Int32))] [(.int (32 : Int32)), (.int (28 : Int32))]))
                                                          refine Gl.go ?_ (fun t k => XS.icmpNo X101.here hx rfl (hb hby d1_7) rfl (tlt (by decide : (28 : Int32) < (32 : Int32))).2.1 k)
                                                          show Gl _ _ _ _ (T101.setTop (mkF m 10 #[.val (.int u), .val (.int (28 : Int32))] []))
                                                          refine Gl.go ?_ (fun t k => XS.iloadN X101.here hx rfl (hb hby d1_10) rfl k)
                                                          show Gl _ _ _ _ (T101.setTop (mkF m 11 #[.val (.int u), .val (.int (28 : Int32))] [(.int u)]))
                                                          obtain ⟨T102, X102, e102, st102⟩ := getS2 X101 hx hZ hown (host := "") (Or.inl (hw _ (List.mem_of_getElem? (i := 14) rfl))) Via.refl e101 S_R (g := (mkF m 11 #[.val (.int u), .val (.int (28 : Int32))] [(.int u)])) rfl (hb hby d1_11)
                                                          refine Gl.go ?_ st102
                                                          show Gl _ _ _ _ (T102.setTop (mkF m 14 #[.val (.int u), .val (.int (28 : Int32))] [(.ref aR), (.int u)]))
                                                          refine Gl.go ?_ (fun t k => XS.iloadN X102.here hx rfl (hb hby d1_14) rfl k)
                                                          show Gl _ _ _ _ (T102.setTop (mkF m 15 #[.val (.int u), .val (.int (28 : Int32))] [(.int (28 : Int32)), (.ref aR), (.int u)]))
                                                          refine Gl.go ?_ (BA.rdI B_R X102 hx hZ e102 (by decide) (by decide) (g := (mkF m 15 #[.val (.int u), .val (.int (28 : Int32))] [(.int (28 : Int32)), (.ref aR), (.int u)])) rfl rfl (hb hby d1_15))
                                                          show Gl _ _ _ _ (T102.setTop (mkF m 16 #[.val (.int u), .val (.int (28 : Int32))] [(.int (65008 : Int32)), (.int u)]))
                                                          by_cases hc103 : u < (65008 : Int32)
                                                          · refine Gl.go ?_ (fun t k => XS.icmpNo X102.here hx rfl (hb hby d1_16) rfl (tlt hc103).2.1 k)
                                                            show Gl _ _ _ _ (T102.setTop (mkF m 19 #[.val (.int u), .val (.int (28 : Int32))] []))
                                                            refine Gl.go ?_ (fun t k => XS.iconst X102.here hx rfl (hb hby d1_19) k)
                                                            show Gl _ _ _ _ (T102.setTop (mkF m 20 #[.val (.int u), .val (.int (28 : Int32))] [(.int (0 : Int32))]))
                                                            obtain ⟨fs, hr, hrun, hended, hW, hsame⟩ := X102.leave (v := some (.int (0 : Int32))) (fun h => by rw [Bd.returns] at h; cases h) (BodyLoose.notSynchronized Bd)
                                                            exact Gl.mk ⟨_, _, retN X102 hx (t := .boolean) Bd.returns (by simp) (hb hby d1_20) hr, hrun, hended, _, _, rfl, ⟨congrArg (fun z => some (Value.int z)) ((if_neg hc33).trans ((if_pos hc35).trans ((if_neg hc38).trans ((if_pos hc40).trans ((if_neg hc43).trans ((if_pos hc45).trans ((if_neg hc48).trans ((if_pos hc50).trans ((if_neg hc53).trans ((if_pos hc55).trans ((if_neg hc58).trans ((if_pos hc60).trans ((if_neg hc63).trans ((if_pos hc65).trans ((if_neg hc68).trans ((if_pos hc70).trans ((if_neg hc73).trans ((if_pos hc75).trans ((if_neg hc78).trans ((if_pos hc80).trans ((if_neg hc83).trans ((if_pos hc85).trans ((if_neg hc88).trans ((if_pos hc90).trans ((if_neg hc93).trans ((if_pos hc95).trans ((if_neg hc98).trans ((if_pos hc100).trans ((if_pos hc103).trans (rfl)))))))))))))))))))))))))))))).symm, rfl, e102⟩, ⟨_, rfl⟩, hW, hsame.mono (by decide) (by decide)⟩
                                                          · refine Gl.go ?_ (fun t k => XS.icmpYes X102.here hx rfl (pc0 := 16) (pc' := 21) rfl (hb hby d1_16) rfl (flt hc103).2.1 (by decide) (by decide) k)
                                                            show Gl _ _ _ _ (T102.setTop (mkF m 21 #[.val (.int u), .val (.int (28 : Int32))] []))
                                                            refine Gl.go ?_ (fun t k => XS.iloadN X102.here hx rfl (hb hby d1_21) rfl k)
                                                            show Gl _ _ _ _ (T102.setTop (mkF m 22 #[.val (.int u), .val (.int (28 : Int32))] [(.int u)]))
                                                            obtain ⟨T104, X104, e104, st104⟩ := getS2 X102 hx hZ hown (host := "") (Or.inl (hw _ (List.mem_of_getElem? (i := 14) rfl))) Via.refl e102 S_R (g := (mkF m 22 #[.val (.int u), .val (.int (28 : Int32))] [(.int u)])) rfl (hb hby d1_22)
                                                            refine Gl.go ?_ st104
                                                            show Gl _ _ _ _ (T104.setTop (mkF m 25 #[.val (.int u), .val (.int (28 : Int32))] [(.ref aR), (.int u)]))
                                                            refine Gl.go ?_ (fun t k => XS.iloadN X104.here hx rfl (hb hby d1_25) rfl k)
                                                            show Gl _ _ _ _ (T104.setTop (mkF m 26 #[.val (.int u), .val (.int (28 : Int32))] [(.int (28 : Int32)), (.ref aR), (.int u)]))
                                                            refine Gl.go ?_ (fun t k => XS.iconst X104.here hx rfl (hb hby d1_26) k)
                                                            show Gl _ _ _ _ (T104.setTop (mkF m 27 #[.val (.int u), .val (.int (28 : Int32))] [(.int (1 : Int32)), (.int (28 : Int32)), (.ref aR), (.int u)]))
                                                            refine Gl.go ?_ (fun t k => XS.iadd X104.here hx rfl (hb hby d1_27) rfl k)
                                                            show Gl _ _ _ _ (T104.setTop (mkF m 28 #[.val (.int u), .val (.int (28 : Int32))] [(.int (29 : Int32)), (.ref aR), (.int u)]))
                                                            refine Gl.go ?_ (BA.rdI B_R X104 hx hZ e104 (by decide) (by decide) (g := (mkF m 28 #[.val (.int u), .val (.int (28 : Int32))] [(.int (29 : Int32)), (.ref aR), (.int u)])) rfl rfl (hb hby d1_28))
                                                            show Gl _ _ _ _ (T104.setTop (mkF m 29 #[.val (.int u), .val (.int (28 : Int32))] [(.int (65533 : Int32)), (.int u)]))
                                                            by_cases hc105 : (65533 : Int32) < u
                                                            · refine Gl.go ?_ (fun t k => XS.icmpYes X104.here hx rfl (pc0 := 29) (pc' := 34) rfl (hb hby d1_29) rfl (tlt hc105).2.2.1 (by decide) (by decide) k)
                                                              show Gl _ _ _ _ (T104.setTop (mkF m 34 #[.val (.int u), .val (.int (28 : Int32))] []))
                                                              refine Gl.go ?_ (fun t k => XS.iinc X104.here hx rfl (hb hby d1_34) rfl (l' := #[.val (.int u), .val (.int (30 : Int32))]) rfl k)
                                                              show Gl _ _ _ _ (T104.setTop (mkF m 37 #[.val (.int u), .val (.int (30 : Int32))] []))
                                                              refine Gl.go ?_ (fun t k => XS.goto X104.here hx rfl (pc0 := 37) (pc' := 2) rfl (hb hby d1_37) (by decide) (by decide) k)
                                                              show Gl _ _ _ _ (T104.setTop (mkF m 2 #[.val (.int u), .val (.int (30 : Int32))] []))
                                                              refine Gl.go ?_ (fun t k => XS.iloadN X104.here hx rfl (hb hby d1_2) rfl k)
                                                              show Gl _ _ _ _ (T104.setTop (mkF m 3 #[.val (.int u), .val (.int (30 : Int32))] [(.int (30 : Int32))]))
                                                              obtain ⟨T106, X106, e106, st106⟩ := getS2 X104 hx hZ hown (host := "") (Or.inl (hw _ (List.mem_of_getElem? (i := 14) rfl))) Via.refl e104 S_R (g := (mkF m 3 #[.val (.int u), .val (.int (30 : Int32))] [(.int (30 : Int32))])) rfl (hb hby d1_3)
                                                              refine Gl.go ?_ st106
                                                              show Gl _ _ _ _ (T106.setTop (mkF m 6 #[.val (.int u), .val (.int (30 : Int32))] [(.ref aR), (.int (30 : Int32))]))
                                                              refine Gl.go ?_ (BA.len B_R X106 hx hZ e106 (g := (mkF m 6 #[.val (.int u), .val (.int (30 : Int32))] [(.ref aR), (.int (30 : Int32))])) rfl rfl (hb hby d1_6))
                                                              show Gl _ _ _ _ (T106.setTop (mkF m 7 #[.val (.int u), .val (.int (30 : Int32))] [(.int (32 : Int32)), (.int (30 : Int32))]))
                                                              refine Gl.go ?_ (fun t k => XS.icmpNo X106.here hx rfl (hb hby d1_7) rfl (tlt (by decide : (30 : Int32) < (32 : Int32))).2.1 k)
                                                              show Gl _ _ _ _ (T106.setTop (mkF m 10 #[.val (.int u), .val (.int (30 : Int32))] []))
                                                              refine Gl.go ?_ (fun t k => XS.iloadN X106.here hx rfl (hb hby d1_10) rfl k)
                                                              show Gl _ _ _ _ (T106.setTop (mkF m 11 #[.val (.int u), .val (.int (30 : Int32))] [(.int u)]))
                                                              obtain ⟨T107, X107, e107, st107⟩ := getS2 X106 hx hZ hown (host := "") (Or.inl (hw _ (List.mem_of_getElem? (i := 14) rfl))) Via.refl e106 S_R (g := (mkF m 11 #[.val (.int u), .val (.int (30 : Int32))] [(.int u)])) rfl (hb hby d1_11)
                                                              refine Gl.go ?_ st107
                                                              show Gl _ _ _ _ (T107.setTop (mkF m 14 #[.val (.int u), .val (.int (30 : Int32))] [(.ref aR), (.int u)]))
                                                              refine Gl.go ?_ (fun t k => XS.iloadN X107.here hx rfl (hb hby d1_14) rfl k)
                                                              show Gl _ _ _ _ (T107.setTop (mkF m 15 #[.val (.int u), .val (.int (30 : Int32))] [(.int (30 : Int32)), (.ref aR), (.int u)]))
                                                              refine Gl.go ?_ (BA.rdI B_R X107 hx hZ e107 (by decide) (by decide) (g := (mkF m 15 #[.val (.int u), .val (.int (30 : Int32))] [(.int (30 : Int32)), (.ref aR), (.int u)])) rfl rfl (hb hby d1_15))
                                                              show Gl _ _ _ _ (T107.setTop (mkF m 16 #[.val (.int u), .val (.int (30 : Int32))] [(.int (65536 : Int32)), (.int u)]))
                                                              by_cases hc108 : u < (65536 : Int32)
                                                              · refine Gl.go ?_ (fun t k => XS.icmpNo X107.here hx rfl (hb hby d1_16) rfl (tlt hc108).2.1 k)
                                                                show Gl _ _ _ _ (T107.setTop (mkF m 19 #[.val (.int u), .val (.int (30 : Int32))] []))
                                                                refine Gl.go ?_ (fun t k => XS.iconst X107.here hx rfl (hb hby d1_19) k)
                                                                show Gl _ _ _ _ (T107.setTop (mkF m 20 #[.val (.int u), .val (.int (30 : Int32))] [(.int (0 : Int32))]))
                                                                obtain ⟨fs, hr, hrun, hended, hW, hsame⟩ := X107.leave (v := some (.int (0 : Int32))) (fun h => by rw [Bd.returns] at h; cases h) (BodyLoose.notSynchronized Bd)
                                                                exact Gl.mk ⟨_, _, retN X107 hx (t := .boolean) Bd.returns (by simp) (hb hby d1_20) hr, hrun, hended, _, _, rfl, ⟨congrArg (fun z => some (Value.int z)) ((if_neg hc33).trans ((if_pos hc35).trans ((if_neg hc38).trans ((if_pos hc40).trans ((if_neg hc43).trans ((if_pos hc45).trans ((if_neg hc48).trans ((if_pos hc50).trans ((if_neg hc53).trans ((if_pos hc55).trans ((if_neg hc58).trans ((if_pos hc60).trans ((if_neg hc63).trans ((if_pos hc65).trans ((if_neg hc68).trans ((if_pos hc70).trans ((if_neg hc73).trans ((if_pos hc75).trans ((if_neg hc78).trans ((if_pos hc80).trans ((if_neg hc83).trans ((if_pos hc85).trans ((if_neg hc88).trans ((if_pos hc90).trans ((if_neg hc93).trans ((if_pos hc95).trans ((if_neg hc98).trans ((if_pos hc100).trans ((if_neg hc103).trans ((if_pos hc105).trans ((if_pos hc108).trans (rfl)))))))))))))))))))))))))))))))).symm, rfl, e107⟩, ⟨_, rfl⟩, hW, hsame.mono (by decide) (by decide)⟩
                                                              · refine Gl.go ?_ (fun t k => XS.icmpYes X107.here hx rfl (pc0 := 16) (pc' := 21) rfl (hb hby d1_16) rfl (flt hc108).2.1 (by decide) (by decide) k)
                                                                show Gl _ _ _ _ (T107.setTop (mkF m 21 #[.val (.int u), .val (.int (30 : Int32))] []))
                                                                refine Gl.go ?_ (fun t k => XS.iloadN X107.here hx rfl (hb hby d1_21) rfl k)
                                                                show Gl _ _ _ _ (T107.setTop (mkF m 22 #[.val (.int u), .val (.int (30 : Int32))] [(.int u)]))
                                                                obtain ⟨T109, X109, e109, st109⟩ := getS2 X107 hx hZ hown (host := "") (Or.inl (hw _ (List.mem_of_getElem? (i := 14) rfl))) Via.refl e107 S_R (g := (mkF m 22 #[.val (.int u), .val (.int (30 : Int32))] [(.int u)])) rfl (hb hby d1_22)
                                                                refine Gl.go ?_ st109
                                                                show Gl _ _ _ _ (T109.setTop (mkF m 25 #[.val (.int u), .val (.int (30 : Int32))] [(.ref aR), (.int u)]))
                                                                refine Gl.go ?_ (fun t k => XS.iloadN X109.here hx rfl (hb hby d1_25) rfl k)
                                                                show Gl _ _ _ _ (T109.setTop (mkF m 26 #[.val (.int u), .val (.int (30 : Int32))] [(.int (30 : Int32)), (.ref aR), (.int u)]))
                                                                refine Gl.go ?_ (fun t k => XS.iconst X109.here hx rfl (hb hby d1_26) k)
                                                                show Gl _ _ _ _ (T109.setTop (mkF m 27 #[.val (.int u), .val (.int (30 : Int32))] [(.int (1 : Int32)), (.int (30 : Int32)), (.ref aR), (.int u)]))
                                                                refine Gl.go ?_ (fun t k => XS.iadd X109.here hx rfl (hb hby d1_27) rfl k)
                                                                show Gl _ _ _ _ (T109.setTop (mkF m 28 #[.val (.int u), .val (.int (30 : Int32))] [(.int (31 : Int32)), (.ref aR), (.int u)]))
                                                                refine Gl.go ?_ (BA.rdI B_R X109 hx hZ e109 (by decide) (by decide) (g := (mkF m 28 #[.val (.int u), .val (.int (30 : Int32))] [(.int (31 : Int32)), (.ref aR), (.int u)])) rfl rfl (hb hby d1_28))
                                                                show Gl _ _ _ _ (T109.setTop (mkF m 29 #[.val (.int u), .val (.int (30 : Int32))] [(.int (983039 : Int32)), (.int u)]))
                                                                by_cases hc110 : (983039 : Int32) < u
                                                                · refine Gl.go ?_ (fun t k => XS.icmpYes X109.here hx rfl (pc0 := 29) (pc' := 34) rfl (hb hby d1_29) rfl (tlt hc110).2.2.1 (by decide) (by decide) k)
                                                                  show Gl _ _ _ _ (T109.setTop (mkF m 34 #[.val (.int u), .val (.int (30 : Int32))] []))
                                                                  refine Gl.go ?_ (fun t k => XS.iinc X109.here hx rfl (hb hby d1_34) rfl (l' := #[.val (.int u), .val (.int (32 : Int32))]) rfl k)
                                                                  show Gl _ _ _ _ (T109.setTop (mkF m 37 #[.val (.int u), .val (.int (32 : Int32))] []))
                                                                  refine Gl.go ?_ (fun t k => XS.goto X109.here hx rfl (pc0 := 37) (pc' := 2) rfl (hb hby d1_37) (by decide) (by decide) k)
                                                                  show Gl _ _ _ _ (T109.setTop (mkF m 2 #[.val (.int u), .val (.int (32 : Int32))] []))
                                                                  refine Gl.go ?_ (fun t k => XS.iloadN X109.here hx rfl (hb hby d1_2) rfl k)
                                                                  show Gl _ _ _ _ (T109.setTop (mkF m 3 #[.val (.int u), .val (.int (32 : Int32))] [(.int (32 : Int32))]))
                                                                  obtain ⟨T111, X111, e111, st111⟩ := getS2 X109 hx hZ hown (host := "") (Or.inl (hw _ (List.mem_of_getElem? (i := 14) rfl))) Via.refl e109 S_R (g := (mkF m 3 #[.val (.int u), .val (.int (32 : Int32))] [(.int (32 : Int32))])) rfl (hb hby d1_3)
                                                                  refine Gl.go ?_ st111
                                                                  show Gl _ _ _ _ (T111.setTop (mkF m 6 #[.val (.int u), .val (.int (32 : Int32))] [(.ref aR), (.int (32 : Int32))]))
                                                                  refine Gl.go ?_ (BA.len B_R X111 hx hZ e111 (g := (mkF m 6 #[.val (.int u), .val (.int (32 : Int32))] [(.ref aR), (.int (32 : Int32))])) rfl rfl (hb hby d1_6))
                                                                  show Gl _ _ _ _ (T111.setTop (mkF m 7 #[.val (.int u), .val (.int (32 : Int32))] [(.int (32 : Int32)), (.int (32 : Int32))]))
                                                                  refine Gl.go ?_ (fun t k => XS.icmpYes X111.here hx rfl (pc0 := 7) (pc' := 40) rfl (hb hby d1_7) rfl (flt (by decide : ¬ ((32 : Int32) < (32 : Int32)))).2.1 (by decide) (by decide) k)
                                                                  show Gl _ _ _ _ (T111.setTop (mkF m 40 #[.val (.int u), .val (.int (32 : Int32))] []))
                                                                  refine Gl.go ?_ (fun t k => XS.iconst X111.here hx rfl (hb hby d1_40) k)
                                                                  show Gl _ _ _ _ (T111.setTop (mkF m 41 #[.val (.int u), .val (.int (32 : Int32))] [(.int (0 : Int32))]))
                                                                  obtain ⟨fs, hr, hrun, hended, hW, hsame⟩ := X111.leave (v := some (.int (0 : Int32))) (fun h => by rw [Bd.returns] at h; cases h) (BodyLoose.notSynchronized Bd)
                                                                  exact Gl.mk ⟨_, _, retN X111 hx (t := .boolean) Bd.returns (by simp) (hb hby d1_41) hr, hrun, hended, _, _, rfl, ⟨congrArg (fun z => some (Value.int z)) ((if_neg hc33).trans ((if_pos hc35).trans ((if_neg hc38).trans ((if_pos hc40).trans ((if_neg hc43).trans ((if_pos hc45).trans ((if_neg hc48).trans ((if_pos hc50).trans ((if_neg hc53).trans ((if_pos hc55).trans ((if_neg hc58).trans ((if_pos hc60).trans ((if_neg hc63).trans ((if_pos hc65).trans ((if_neg hc68).trans ((if_pos hc70).trans ((if_neg hc73).trans ((if_pos hc75).trans ((if_neg hc78).trans ((if_pos hc80).trans ((if_neg hc83).trans ((if_pos hc85).trans ((if_neg hc88).trans ((if_pos hc90).trans ((if_neg hc93).trans ((if_pos hc95).trans ((if_neg hc98).trans ((if_pos hc100).trans ((if_neg hc103).trans ((if_pos hc105).trans ((if_neg hc108).trans ((if_pos hc110).trans (rfl))))))))))))))))))))))))))))))))).symm, rfl, e111⟩, ⟨_, rfl⟩, hW, hsame.mono (by decide) (by decide)⟩
                                                                · refine Gl.go ?_ (fun t k => XS.icmpNo X109.here hx rfl (hb hby d1_29) rfl (flt hc110).2.2.1 k)
                                                                  show Gl _ _ _ _ (T109.setTop (mkF m 32 #[.val (.int u), .val (.int (30 : Int32))] []))
                                                                  refine Gl.go ?_ (fun t k => XS.iconst X109.here hx rfl (hb hby d1_32) k)
                                                                  show Gl _ _ _ _ (T109.setTop (mkF m 33 #[.val (.int u), .val (.int (30 : Int32))] [(.int (1 : Int32))]))
                                                                  obtain ⟨fs, hr, hrun, hended, hW, hsame⟩ := X109.leave (v := some (.int (1 : Int32))) (fun h => by rw [Bd.returns] at h; cases h) (BodyLoose.notSynchronized Bd)
                                                                  exact Gl.mk ⟨_, _, retN X109 hx (t := .boolean) Bd.returns (by simp) (hb hby d1_33) hr, hrun, hended, _, _, rfl, ⟨congrArg (fun z => some (Value.int z)) ((if_neg hc33).trans ((if_pos hc35).trans ((if_neg hc38).trans ((if_pos hc40).trans ((if_neg hc43).trans ((if_pos hc45).trans ((if_neg hc48).trans ((if_pos hc50).trans ((if_neg hc53).trans ((if_pos hc55).trans ((if_neg hc58).trans ((if_pos hc60).trans ((if_neg hc63).trans ((if_pos hc65).trans ((if_neg hc68).trans ((if_pos hc70).trans ((if_neg hc73).trans ((if_pos hc75).trans ((if_neg hc78).trans ((if_pos hc80).trans ((if_neg hc83).trans ((if_pos hc85).trans ((if_neg hc88).trans ((if_pos hc90).trans ((if_neg hc93).trans ((if_pos hc95).trans ((if_neg hc98).trans ((if_pos hc100).trans ((if_neg hc103).trans ((if_pos hc105).trans ((if_neg hc108).trans ((if_neg hc110).trans (rfl))))))))))))))))))))))))))))))))).symm, rfl, e109⟩, ⟨_, rfl⟩, hW, hsame.mono (by decide) (by decide)⟩
                                                            · refine Gl.go ?_ (fun t k => XS.icmpNo X104.here hx rfl (hb hby d1_29) rfl (flt hc105).2.2.1 k)
                                                              show Gl _ _ _ _ (T104.setTop (mkF m 32 #[.val (.int u), .val (.int (28 : Int32))] []))
                                                              refine Gl.go ?_ (fun t k => XS.iconst X104.here hx rfl (hb hby d1_32) k)
                                                              show Gl _ _ _ _ (T104.setTop (mkF m 33 #[.val (.int u), .val (.int (28 : Int32))] [(.int (1 : Int32))]))
                                                              obtain ⟨fs, hr, hrun, hended, hW, hsame⟩ := X104.leave (v := some (.int (1 : Int32))) (fun h => by rw [Bd.returns] at h; cases h) (BodyLoose.notSynchronized Bd)
                                                              exact Gl.mk ⟨_, _, retN X104 hx (t := .boolean) Bd.returns (by simp) (hb hby d1_33) hr, hrun, hended, _, _, rfl, ⟨congrArg (fun z => some (Value.int z)) ((if_neg hc33).trans ((if_pos hc35).trans ((if_neg hc38).trans ((if_pos hc40).trans ((if_neg hc43).trans ((if_pos hc45).trans ((if_neg hc48).trans ((if_pos hc50).trans ((if_neg hc53).trans ((if_pos hc55).trans ((if_neg hc58).trans ((if_pos hc60).trans ((if_neg hc63).trans ((if_pos hc65).trans ((if_neg hc68).trans ((if_pos hc70).trans ((if_neg hc73).trans ((if_pos hc75).trans ((if_neg hc78).trans ((if_pos hc80).trans ((if_neg hc83).trans ((if_pos hc85).trans ((if_neg hc88).trans ((if_pos hc90).trans ((if_neg hc93).trans ((if_pos hc95).trans ((if_neg hc98).trans ((if_pos hc100).trans ((if_neg hc103).trans ((if_neg hc105).trans (rfl))))))))))))))))))))))))))))))).symm, rfl, e104⟩, ⟨_, rfl⟩, hW, hsame.mono (by decide) (by decide)⟩
                                                        · refine Gl.go ?_ (fun t k => XS.icmpNo X99.here hx rfl (hb hby d1_29) rfl (flt hc100).2.2.1 k)
                                                          show Gl _ _ _ _ (T99.setTop (mkF m 32 #[.val (.int u), .val (.int (26 : Int32))] []))
                                                          refine Gl.go ?_ (fun t k => XS.iconst X99.here hx rfl (hb hby d1_32) k)
                                                          show Gl _ _ _ _ (T99.setTop (mkF m 33 #[.val (.int u), .val (.int (26 : Int32))] [(.int (1 : Int32))]))
                                                          obtain ⟨fs, hr, hrun, hended, hW, hsame⟩ := X99.leave (v := some (.int (1 : Int32))) (fun h => by rw [Bd.returns] at h; cases h) (BodyLoose.notSynchronized Bd)
                                                          exact Gl.mk ⟨_, _, retN X99 hx (t := .boolean) Bd.returns (by simp) (hb hby d1_33) hr, hrun, hended, _, _, rfl, ⟨congrArg (fun z => some (Value.int z)) ((if_neg hc33).trans ((if_pos hc35).trans ((if_neg hc38).trans ((if_pos hc40).trans ((if_neg hc43).trans ((if_pos hc45).trans ((if_neg hc48).trans ((if_pos hc50).trans ((if_neg hc53).trans ((if_pos hc55).trans ((if_neg hc58).trans ((if_pos hc60).trans ((if_neg hc63).trans ((if_pos hc65).trans ((if_neg hc68).trans ((if_pos hc70).trans ((if_neg hc73).trans ((if_pos hc75).trans ((if_neg hc78).trans ((if_pos hc80).trans ((if_neg hc83).trans ((if_pos hc85).trans ((if_neg hc88).trans ((if_pos hc90).trans ((if_neg hc93).trans ((if_pos hc95).trans ((if_neg hc98).trans ((if_neg hc100).trans (rfl))))))))))))))))))))))))))))).symm, rfl, e99⟩, ⟨_, rfl⟩, hW, hsame.mono (by decide) (by decide)⟩
                                                    · refine Gl.go ?_ (fun t k => XS.icmpNo X94.here hx rfl (hb hby d1_29) rfl (flt hc95).2.2.1 k)
                                                      show Gl _ _ _ _ (T94.setTop (mkF m 32 #[.val (.int u), .val (.int (24 : Int32))] []))
                                                      refine Gl.go ?_ (fun t k => XS.iconst X94.here hx rfl (hb hby d1_32) k)
                                                      show Gl _ _ _ _ (T94.setTop (mkF m 33 #[.val (.int u), .val (.int (24 : Int32))] [(.int (1 : Int32))]))
                                                      obtain ⟨fs, hr, hrun, hended, hW, hsame⟩ := X94.leave (v := some (.int (1 : Int32))) (fun h => by rw [Bd.returns] at h; cases h) (BodyLoose.notSynchronized Bd)
                                                      exact Gl.mk ⟨_, _, retN X94 hx (t := .boolean) Bd.returns (by simp) (hb hby d1_33) hr, hrun, hended, _, _, rfl, ⟨congrArg (fun z => some (Value.int z)) ((if_neg hc33).trans ((if_pos hc35).trans ((if_neg hc38).trans ((if_pos hc40).trans ((if_neg hc43).trans ((if_pos hc45).trans ((if_neg hc48).trans ((if_pos hc50).trans ((if_neg hc53).trans ((if_pos hc55).trans ((if_neg hc58).trans ((if_pos hc60).trans ((if_neg hc63).trans ((if_pos hc65).trans ((if_neg hc68).trans ((if_pos hc70).trans ((if_neg hc73).trans ((if_pos hc75).trans ((if_neg hc78).trans ((if_pos hc80).trans ((if_neg hc83).trans ((if_pos hc85).trans ((if_neg hc88).trans ((if_pos hc90).trans ((if_neg hc93).trans ((if_neg hc95).trans (rfl))))))))))))))))))))))))))).symm, rfl, e94⟩, ⟨_, rfl⟩, hW, hsame.mono (by decide) (by decide)⟩
                                                · refine Gl.go ?_ (fun t k => XS.icmpNo X89.here hx rfl (hb hby d1_29) rfl (flt hc90).2.2.1 k)
                                                  show Gl _ _ _ _ (T89.setTop (mkF m 32 #[.val (.int u), .val (.int (22 : Int32))] []))
                                                  refine Gl.go ?_ (fun t k => XS.iconst X89.here hx rfl (hb hby d1_32) k)
                                                  show Gl _ _ _ _ (T89.setTop (mkF m 33 #[.val (.int u), .val (.int (22 : Int32))] [(.int (1 : Int32))]))
                                                  obtain ⟨fs, hr, hrun, hended, hW, hsame⟩ := X89.leave (v := some (.int (1 : Int32))) (fun h => by rw [Bd.returns] at h; cases h) (BodyLoose.notSynchronized Bd)
                                                  exact Gl.mk ⟨_, _, retN X89 hx (t := .boolean) Bd.returns (by simp) (hb hby d1_33) hr, hrun, hended, _, _, rfl, ⟨congrArg (fun z => some (Value.int z)) ((if_neg hc33).trans ((if_pos hc35).trans ((if_neg hc38).trans ((if_pos hc40).trans ((if_neg hc43).trans ((if_pos hc45).trans ((if_neg hc48).trans ((if_pos hc50).trans ((if_neg hc53).trans ((if_pos hc55).trans ((if_neg hc58).trans ((if_pos hc60).trans ((if_neg hc63).trans ((if_pos hc65).trans ((if_neg hc68).trans ((if_pos hc70).trans ((if_neg hc73).trans ((if_pos hc75).trans ((if_neg hc78).trans ((if_pos hc80).trans ((if_neg hc83).trans ((if_pos hc85).trans ((if_neg hc88).trans ((if_neg hc90).trans (rfl))))))))))))))))))))))))).symm, rfl, e89⟩, ⟨_, rfl⟩, hW, hsame.mono (by decide) (by decide)⟩
                                            · refine Gl.go ?_ (fun t k => XS.icmpNo X84.here hx rfl (hb hby d1_29) rfl (flt hc85).2.2.1 k)
                                              show Gl _ _ _ _ (T84.setTop (mkF m 32 #[.val (.int u), .val (.int (20 : Int32))] []))
                                              refine Gl.go ?_ (fun t k => XS.iconst X84.here hx rfl (hb hby d1_32) k)
                                              show Gl _ _ _ _ (T84.setTop (mkF m 33 #[.val (.int u), .val (.int (20 : Int32))] [(.int (1 : Int32))]))
                                              obtain ⟨fs, hr, hrun, hended, hW, hsame⟩ := X84.leave (v := some (.int (1 : Int32))) (fun h => by rw [Bd.returns] at h; cases h) (BodyLoose.notSynchronized Bd)
                                              exact Gl.mk ⟨_, _, retN X84 hx (t := .boolean) Bd.returns (by simp) (hb hby d1_33) hr, hrun, hended, _, _, rfl, ⟨congrArg (fun z => some (Value.int z)) ((if_neg hc33).trans ((if_pos hc35).trans ((if_neg hc38).trans ((if_pos hc40).trans ((if_neg hc43).trans ((if_pos hc45).trans ((if_neg hc48).trans ((if_pos hc50).trans ((if_neg hc53).trans ((if_pos hc55).trans ((if_neg hc58).trans ((if_pos hc60).trans ((if_neg hc63).trans ((if_pos hc65).trans ((if_neg hc68).trans ((if_pos hc70).trans ((if_neg hc73).trans ((if_pos hc75).trans ((if_neg hc78).trans ((if_pos hc80).trans ((if_neg hc83).trans ((if_neg hc85).trans (rfl))))))))))))))))))))))).symm, rfl, e84⟩, ⟨_, rfl⟩, hW, hsame.mono (by decide) (by decide)⟩
                                        · refine Gl.go ?_ (fun t k => XS.icmpNo X79.here hx rfl (hb hby d1_29) rfl (flt hc80).2.2.1 k)
                                          show Gl _ _ _ _ (T79.setTop (mkF m 32 #[.val (.int u), .val (.int (18 : Int32))] []))
                                          refine Gl.go ?_ (fun t k => XS.iconst X79.here hx rfl (hb hby d1_32) k)
                                          show Gl _ _ _ _ (T79.setTop (mkF m 33 #[.val (.int u), .val (.int (18 : Int32))] [(.int (1 : Int32))]))
                                          obtain ⟨fs, hr, hrun, hended, hW, hsame⟩ := X79.leave (v := some (.int (1 : Int32))) (fun h => by rw [Bd.returns] at h; cases h) (BodyLoose.notSynchronized Bd)
                                          exact Gl.mk ⟨_, _, retN X79 hx (t := .boolean) Bd.returns (by simp) (hb hby d1_33) hr, hrun, hended, _, _, rfl, ⟨congrArg (fun z => some (Value.int z)) ((if_neg hc33).trans ((if_pos hc35).trans ((if_neg hc38).trans ((if_pos hc40).trans ((if_neg hc43).trans ((if_pos hc45).trans ((if_neg hc48).trans ((if_pos hc50).trans ((if_neg hc53).trans ((if_pos hc55).trans ((if_neg hc58).trans ((if_pos hc60).trans ((if_neg hc63).trans ((if_pos hc65).trans ((if_neg hc68).trans ((if_pos hc70).trans ((if_neg hc73).trans ((if_pos hc75).trans ((if_neg hc78).trans ((if_neg hc80).trans (rfl))))))))))))))))))))).symm, rfl, e79⟩, ⟨_, rfl⟩, hW, hsame.mono (by decide) (by decide)⟩
                                    · refine Gl.go ?_ (fun t k => XS.icmpNo X74.here hx rfl (hb hby d1_29) rfl (flt hc75).2.2.1 k)
                                      show Gl _ _ _ _ (T74.setTop (mkF m 32 #[.val (.int u), .val (.int (16 : Int32))] []))
                                      refine Gl.go ?_ (fun t k => XS.iconst X74.here hx rfl (hb hby d1_32) k)
                                      show Gl _ _ _ _ (T74.setTop (mkF m 33 #[.val (.int u), .val (.int (16 : Int32))] [(.int (1 : Int32))]))
                                      obtain ⟨fs, hr, hrun, hended, hW, hsame⟩ := X74.leave (v := some (.int (1 : Int32))) (fun h => by rw [Bd.returns] at h; cases h) (BodyLoose.notSynchronized Bd)
                                      exact Gl.mk ⟨_, _, retN X74 hx (t := .boolean) Bd.returns (by simp) (hb hby d1_33) hr, hrun, hended, _, _, rfl, ⟨congrArg (fun z => some (Value.int z)) ((if_neg hc33).trans ((if_pos hc35).trans ((if_neg hc38).trans ((if_pos hc40).trans ((if_neg hc43).trans ((if_pos hc45).trans ((if_neg hc48).trans ((if_pos hc50).trans ((if_neg hc53).trans ((if_pos hc55).trans ((if_neg hc58).trans ((if_pos hc60).trans ((if_neg hc63).trans ((if_pos hc65).trans ((if_neg hc68).trans ((if_pos hc70).trans ((if_neg hc73).trans ((if_neg hc75).trans (rfl))))))))))))))))))).symm, rfl, e74⟩, ⟨_, rfl⟩, hW, hsame.mono (by decide) (by decide)⟩
                                · refine Gl.go ?_ (fun t k => XS.icmpNo X69.here hx rfl (hb hby d1_29) rfl (flt hc70).2.2.1 k)
                                  show Gl _ _ _ _ (T69.setTop (mkF m 32 #[.val (.int u), .val (.int (14 : Int32))] []))
                                  refine Gl.go ?_ (fun t k => XS.iconst X69.here hx rfl (hb hby d1_32) k)
                                  show Gl _ _ _ _ (T69.setTop (mkF m 33 #[.val (.int u), .val (.int (14 : Int32))] [(.int (1 : Int32))]))
                                  obtain ⟨fs, hr, hrun, hended, hW, hsame⟩ := X69.leave (v := some (.int (1 : Int32))) (fun h => by rw [Bd.returns] at h; cases h) (BodyLoose.notSynchronized Bd)
                                  exact Gl.mk ⟨_, _, retN X69 hx (t := .boolean) Bd.returns (by simp) (hb hby d1_33) hr, hrun, hended, _, _, rfl, ⟨congrArg (fun z => some (Value.int z)) ((if_neg hc33).trans ((if_pos hc35).trans ((if_neg hc38).trans ((if_pos hc40).trans ((if_neg hc43).trans ((if_pos hc45).trans ((if_neg hc48).trans ((if_pos hc50).trans ((if_neg hc53).trans ((if_pos hc55).trans ((if_neg hc58).trans ((if_pos hc60).trans ((if_neg hc63).trans ((if_pos hc65).trans ((if_neg hc68).trans ((if_neg hc70).trans (rfl))))))))))))))))).symm, rfl, e69⟩, ⟨_, rfl⟩, hW, hsame.mono (by decide) (by decide)⟩
                            · refine Gl.go ?_ (fun t k => XS.icmpNo X64.here hx rfl (hb hby d1_29) rfl (flt hc65).2.2.1 k)
                              show Gl _ _ _ _ (T64.setTop (mkF m 32 #[.val (.int u), .val (.int (12 : Int32))] []))
                              refine Gl.go ?_ (fun t k => XS.iconst X64.here hx rfl (hb hby d1_32) k)
                              show Gl _ _ _ _ (T64.setTop (mkF m 33 #[.val (.int u), .val (.int (12 : Int32))] [(.int (1 : Int32))]))
                              obtain ⟨fs, hr, hrun, hended, hW, hsame⟩ := X64.leave (v := some (.int (1 : Int32))) (fun h => by rw [Bd.returns] at h; cases h) (BodyLoose.notSynchronized Bd)
                              exact Gl.mk ⟨_, _, retN X64 hx (t := .boolean) Bd.returns (by simp) (hb hby d1_33) hr, hrun, hended, _, _, rfl, ⟨congrArg (fun z => some (Value.int z)) ((if_neg hc33).trans ((if_pos hc35).trans ((if_neg hc38).trans ((if_pos hc40).trans ((if_neg hc43).trans ((if_pos hc45).trans ((if_neg hc48).trans ((if_pos hc50).trans ((if_neg hc53).trans ((if_pos hc55).trans ((if_neg hc58).trans ((if_pos hc60).trans ((if_neg hc63).trans ((if_neg hc65).trans (rfl))))))))))))))).symm, rfl, e64⟩, ⟨_, rfl⟩, hW, hsame.mono (by decide) (by decide)⟩
                        · refine Gl.go ?_ (fun t k => XS.icmpNo X59.here hx rfl (hb hby d1_29) rfl (flt hc60).2.2.1 k)
                          show Gl _ _ _ _ (T59.setTop (mkF m 32 #[.val (.int u), .val (.int (10 : Int32))] []))
                          refine Gl.go ?_ (fun t k => XS.iconst X59.here hx rfl (hb hby d1_32) k)
                          show Gl _ _ _ _ (T59.setTop (mkF m 33 #[.val (.int u), .val (.int (10 : Int32))] [(.int (1 : Int32))]))
                          obtain ⟨fs, hr, hrun, hended, hW, hsame⟩ := X59.leave (v := some (.int (1 : Int32))) (fun h => by rw [Bd.returns] at h; cases h) (BodyLoose.notSynchronized Bd)
                          exact Gl.mk ⟨_, _, retN X59 hx (t := .boolean) Bd.returns (by simp) (hb hby d1_33) hr, hrun, hended, _, _, rfl, ⟨congrArg (fun z => some (Value.int z)) ((if_neg hc33).trans ((if_pos hc35).trans ((if_neg hc38).trans ((if_pos hc40).trans ((if_neg hc43).trans ((if_pos hc45).trans ((if_neg hc48).trans ((if_pos hc50).trans ((if_neg hc53).trans ((if_pos hc55).trans ((if_neg hc58).trans ((if_neg hc60).trans (rfl))))))))))))).symm, rfl, e59⟩, ⟨_, rfl⟩, hW, hsame.mono (by decide) (by decide)⟩
                    · refine Gl.go ?_ (fun t k => XS.icmpNo X54.here hx rfl (hb hby d1_29) rfl (flt hc55).2.2.1 k)
                      show Gl _ _ _ _ (T54.setTop (mkF m 32 #[.val (.int u), .val (.int (8 : Int32))] []))
                      refine Gl.go ?_ (fun t k => XS.iconst X54.here hx rfl (hb hby d1_32) k)
                      show Gl _ _ _ _ (T54.setTop (mkF m 33 #[.val (.int u), .val (.int (8 : Int32))] [(.int (1 : Int32))]))
                      obtain ⟨fs, hr, hrun, hended, hW, hsame⟩ := X54.leave (v := some (.int (1 : Int32))) (fun h => by rw [Bd.returns] at h; cases h) (BodyLoose.notSynchronized Bd)
                      exact Gl.mk ⟨_, _, retN X54 hx (t := .boolean) Bd.returns (by simp) (hb hby d1_33) hr, hrun, hended, _, _, rfl, ⟨congrArg (fun z => some (Value.int z)) ((if_neg hc33).trans ((if_pos hc35).trans ((if_neg hc38).trans ((if_pos hc40).trans ((if_neg hc43).trans ((if_pos hc45).trans ((if_neg hc48).trans ((if_pos hc50).trans ((if_neg hc53).trans ((if_neg hc55).trans (rfl))))))))))).symm, rfl, e54⟩, ⟨_, rfl⟩, hW, hsame.mono (by decide) (by decide)⟩
                · refine Gl.go ?_ (fun t k => XS.icmpNo X49.here hx rfl (hb hby d1_29) rfl (flt hc50).2.2.1 k)
                  show Gl _ _ _ _ (T49.setTop (mkF m 32 #[.val (.int u), .val (.int (6 : Int32))] []))
                  refine Gl.go ?_ (fun t k => XS.iconst X49.here hx rfl (hb hby d1_32) k)
                  show Gl _ _ _ _ (T49.setTop (mkF m 33 #[.val (.int u), .val (.int (6 : Int32))] [(.int (1 : Int32))]))
                  obtain ⟨fs, hr, hrun, hended, hW, hsame⟩ := X49.leave (v := some (.int (1 : Int32))) (fun h => by rw [Bd.returns] at h; cases h) (BodyLoose.notSynchronized Bd)
                  exact Gl.mk ⟨_, _, retN X49 hx (t := .boolean) Bd.returns (by simp) (hb hby d1_33) hr, hrun, hended, _, _, rfl, ⟨congrArg (fun z => some (Value.int z)) ((if_neg hc33).trans ((if_pos hc35).trans ((if_neg hc38).trans ((if_pos hc40).trans ((if_neg hc43).trans ((if_pos hc45).trans ((if_neg hc48).trans ((if_neg hc50).trans (rfl))))))))).symm, rfl, e49⟩, ⟨_, rfl⟩, hW, hsame.mono (by decide) (by decide)⟩
            · refine Gl.go ?_ (fun t k => XS.icmpNo X44.here hx rfl (hb hby d1_29) rfl (flt hc45).2.2.1 k)
              show Gl _ _ _ _ (T44.setTop (mkF m 32 #[.val (.int u), .val (.int (4 : Int32))] []))
              refine Gl.go ?_ (fun t k => XS.iconst X44.here hx rfl (hb hby d1_32) k)
              show Gl _ _ _ _ (T44.setTop (mkF m 33 #[.val (.int u), .val (.int (4 : Int32))] [(.int (1 : Int32))]))
              obtain ⟨fs, hr, hrun, hended, hW, hsame⟩ := X44.leave (v := some (.int (1 : Int32))) (fun h => by rw [Bd.returns] at h; cases h) (BodyLoose.notSynchronized Bd)
              exact Gl.mk ⟨_, _, retN X44 hx (t := .boolean) Bd.returns (by simp) (hb hby d1_33) hr, hrun, hended, _, _, rfl, ⟨congrArg (fun z => some (Value.int z)) ((if_neg hc33).trans ((if_pos hc35).trans ((if_neg hc38).trans ((if_pos hc40).trans ((if_neg hc43).trans ((if_neg hc45).trans (rfl))))))).symm, rfl, e44⟩, ⟨_, rfl⟩, hW, hsame.mono (by decide) (by decide)⟩
        · refine Gl.go ?_ (fun t k => XS.icmpNo X39.here hx rfl (hb hby d1_29) rfl (flt hc40).2.2.1 k)
          show Gl _ _ _ _ (T39.setTop (mkF m 32 #[.val (.int u), .val (.int (2 : Int32))] []))
          refine Gl.go ?_ (fun t k => XS.iconst X39.here hx rfl (hb hby d1_32) k)
          show Gl _ _ _ _ (T39.setTop (mkF m 33 #[.val (.int u), .val (.int (2 : Int32))] [(.int (1 : Int32))]))
          obtain ⟨fs, hr, hrun, hended, hW, hsame⟩ := X39.leave (v := some (.int (1 : Int32))) (fun h => by rw [Bd.returns] at h; cases h) (BodyLoose.notSynchronized Bd)
          exact Gl.mk ⟨_, _, retN X39 hx (t := .boolean) Bd.returns (by simp) (hb hby d1_33) hr, hrun, hended, _, _, rfl, ⟨congrArg (fun z => some (Value.int z)) ((if_neg hc33).trans ((if_pos hc35).trans ((if_neg hc38).trans ((if_neg hc40).trans (rfl))))).symm, rfl, e39⟩, ⟨_, rfl⟩, hW, hsame.mono (by decide) (by decide)⟩
    · refine Gl.go ?_ (fun t k => XS.icmpNo X34.here hx rfl (hb hby d1_29) rfl (flt hc35).2.2.1 k)
      show Gl _ _ _ _ (T34.setTop (mkF m 32 #[.val (.int u), .val (.int (0 : Int32))] []))
      refine Gl.go ?_ (fun t k => XS.iconst X34.here hx rfl (hb hby d1_32) k)
      show Gl _ _ _ _ (T34.setTop (mkF m 33 #[.val (.int u), .val (.int (0 : Int32))] [(.int (1 : Int32))]))
      obtain ⟨fs, hr, hrun, hended, hW, hsame⟩ := X34.leave (v := some (.int (1 : Int32))) (fun h => by rw [Bd.returns] at h; cases h) (BodyLoose.notSynchronized Bd)
      exact Gl.mk ⟨_, _, retN X34 hx (t := .boolean) Bd.returns (by simp) (hb hby d1_33) hr, hrun, hended, _, _, rfl, ⟨congrArg (fun z => some (Value.int z)) ((if_neg hc33).trans ((if_neg hc35).trans (rfl))).symm, rfl, e34⟩, ⟨_, rfl⟩, hW, hsame.mono (by decide) (by decide)⟩
theorem own_same (u : Int32) : f_is u = f_spec u := by
  by_cases h1 : u = 58
  · subst h1; rfl
  · by_cases h2 : u = 95
    · subst h2; rfl
    · have e1 := iv_ne (k := 58) rfl h1
      have e2 := iv_ne (k := 95) rfl h2
      unfold f_is f_spec
      rw [if_neg h1]
      by_cases h3 : u < 58
      · rw [if_pos h3, if_pos (iv_lt' (k := 65) rfl (by have := iv_lt (k := 58) rfl h3; omega))]
      · have e3 := iv_nlt (k := 58) rfl h3
        rw [if_neg h3, if_pos (iv_gt' (k := 58) rfl (by omega))]
        by_cases h4 : u < 65
        · rw [if_pos h4, if_pos h4]
        · rw [if_neg h4, if_neg h4]
          by_cases h5 : 90 < u
          · have e5 := iv_gt (k := 90) rfl h5
            rw [if_pos h5, if_pos h5, if_neg h2]
            by_cases h6 : u < 95
            · rw [if_pos h6, if_pos (iv_lt' (k := 97) rfl (by have := iv_lt (k := 95) rfl h6; omega))]
            · have e6 := iv_nlt (k := 95) rfl h6
              rw [if_neg h6, if_pos (iv_gt' (k := 95) rfl (by omega))]
          · rw [if_neg h5, if_neg h5]
theorem own_m31 (x : Int32) : ¬ (x &&& (31 : Int32)) < 0 ∧ (x &&& (31 : Int32)) < 32 := by
  have e : (x &&& (31 : Int32)).toInt = x.toInt % 2 ^ 5 := Jvm.Kit.i32_mask x 31 (k := 5) (by decide) (by decide)
  exact ⟨iv_nlt' (k := 0) rfl (by omega), iv_lt' (k := 32) rfl (by omega)⟩
theorem own_BA32 {args : Array Value} {Z : State} {t : Term} {a : Addr} {cl : Cell} (hf : Fit Z) (A : Arr Z Z.heap a cl .int) (ev : t.eval args Z none [] Z = some (.ref a)) (hl : (Term.length t).eval args Z none [] Z = some (.int 32)) (H : HasL cl 0 (own_R.map Value.int)) : BA Z Z.heap a .int 32 (nth own_R) := by
  have ha : Z.arrayAt? a = some cl := IntBox.arrayAt_of A.1 A.2.1 A.2.2
  have q : cl.slots.size < 2 ^ 31 ∧ cl.slots.size.toInt32 = 32 := by
    simpa [Term.eval, ev, ha] using hl
  exact BA.of own_R (Arv.start (dv := .int 0) hf A q.1 q.2 (by decide) (by decide) H) (by decide)
theorem pn_0 : plainName "com/example/facet/facet/datatypes/XmlNamesIsNameStartCharPinLaw" = true := by first | (simp [plainName, overriddenIn]; done) | decide +kernel
theorem pd_0 : parseMethodDescriptor "(I)Z" = some ⟨[.int], some .boolean⟩ := by decide +kernel
def f_law (u0 u1 u2 : Int32) : Int32 := (1 : Int32)
theorem ef_rm0 (m : MethodId) (x0 : Int32) (x1 : Int32) (x2 : Int32) : entryFrame m #[(.int x0), (.int x1), (.int x2)] maxLocals = mkF m 0 #[.val (.int x0), .val (.int x1), .val (.int x2), .unset, .unset, .unset, .unset, .unset, .unset] [] := by first | (simp [entryFrame, mkF, argsToLocals, Value.category, maxLocals]; done) | rfl
set_option maxRecDepth 65536 in
set_option maxHeartbeats 40000000 in
theorem rm0 (l : Launch) (Z : State) (a0 : Array Value) (hw : ∀ d ∈ tables_1, d.before a0 Z = true) (ws : List Jvm.Cond) (u0 : Int32) (u1 : Int32) (u2 : Int32) (aR : Addr) (h0 : Heap) (n0 : Nat) (Z0 : n0 ≤ h0.size) (S_R : Sta Z h0 "com/example/facet/facet/datatypes/XmlNames" "NAME_START_RANGES" "[I" (.ref aR)) (B_R : BA Z h0 aR .int (32 : Int32) (nth own_R)) (hj1 : ¬ (u1 &&& (31 : Int32)) < 0) (hj2 : (u1 &&& (31 : Int32)) < 32) :
    MetFree l x (head1 (Jvm.Cond.code x code maxLocals ret :: ws) room_1) (fun aQ U => aQ = #[(.int u0), (.int u1), (.int u2)] ∧ Z.Warmed39 U.vm ∧ U.heap = h0) (fun _ _ _ _ _ => True) (fun _ U o U' => ∃ vQ LQ, o = .returned vQ ∧ (vQ = some (.int (f_law u0 u1 u2)) ∧ Fr n0 LQ) ∧ FrameEnd U o U' LQ room_1.cells room_1.slots) := by
  refine MetFree.of_bodySF (plainFor_of_name pn_0) hisR ?_
  intro p e s m args below meth c s₁ Bd hml0 hP hK
  obtain ⟨rfl, hZ, hh⟩ := hP
  have hx := Bd.exec
  have hby := Bd.bytes
  have hml : c.maxLocals = 9 := hml0
  have hown : s.vm.findClass "com/example/facet/facet/datatypes/XmlNamesIsNameStartCharPinLaw" = some m.cls := findClass_of_methodNamed Bd.named
  have hnm := (name_of_methodNamed Bd.named Bd.method).1
  have X0 : Stand p l e room_1 s m #[(.int u0), (.int u1), (.int u2)] below meth c s₁ [] 0 0 := Stand.of_body Bd
  have e0 : s₁.heap = h0 := by rw [← hh, Bd.state]; rfl
  have NF := Fr.nil n0
  refine Gl.out ?_
  refine Gl.go ?_ (fun t k => castTop (ef_rm0 m u0 u1 u2) k)
  show Gl _ _ _ _ (s₁.setTop (mkF m 0 #[.val (.int u0), .val (.int u1), .val (.int u2), .unset, .unset, .unset, .unset, .unset, .unset] []))
  refine Gl.go ?_ (fun t k => XS.bipush X0.here hx rfl (hb hby at_0) k)
  show Gl _ _ _ _ (s₁.setTop (mkF m 2 #[.val (.int u0), .val (.int u1), .val (.int u2), .unset, .unset, .unset, .unset, .unset, .unset] [(.int (32 : Int32))]))
  obtain ⟨T112, h112, k112, X112, e112, E112, A112, st112⟩ := newP X0 hx hZ (hw _ (List.mem_of_getElem? (i := 0) rfl)) e0 (g := (mkF m 2 #[.val (.int u0), .val (.int u1), .val (.int u2), .unset, .unset, .unset, .unset, .unset, .unset] [(.int (32 : Int32))])) rfl (hb hby at_2) rfl (by decide) (cap := 32) (by decide) (by decide) (by decide) (by decide)
  obtain ⟨b112, g112⟩ : ∃ z, z = h0.size := ⟨_, rfl⟩
  rw [← g112] at A112 st112
  have g_b112 : n0 ≤ b112 := Nat.le_trans Z0 (Nat.le_of_eq g112.symm)
  have ne_aR_b112 : aR ≠ b112 := Nat.ne_of_lt (Nat.lt_of_lt_of_le B_R.lt (Nat.le_of_eq g112.symm))
  replace S_R := S_R.ext E112
  replace B_R := B_R.ext E112
  replace Z0 := Nat.le_trans Z0 E112.1
  have V_b112 : Arv Z h112 b112 k112 .int (32 : Int32) [(.int (0 : Int32)), (.int (0 : Int32)), (.int (0 : Int32)), (.int (0 : Int32)), (.int (0 : Int32)), (.int (0 : Int32)), (.int (0 : Int32)), (.int (0 : Int32)), (.int (0 : Int32)), (.int (0 : Int32)), (.int (0 : Int32)), (.int (0 : Int32)), (.int (0 : Int32)), (.int (0 : Int32)), (.int (0 : Int32)), (.int (0 : Int32)), (.int (0 : Int32)), (.int (0 : Int32)), (.int (0 : Int32)), (.int (0 : Int32)), (.int (0 : Int32)), (.int (0 : Int32)), (.int (0 : Int32)), (.int (0 : Int32)), (.int (0 : Int32)), (.int (0 : Int32)), (.int (0 : Int32)), (.int (0 : Int32)), (.int (0 : Int32)), (.int (0 : Int32)), (.int (0 : Int32)), (.int (0 : Int32))] (.int (0 : Int32)) := (Arv.new A112 (by decide)).pad (pad_rep [] (.int (0 : Int32)) 32)
  refine Gl.go ?_ st112
  show Gl _ _ _ _ (T112.setTop (mkF m 4 #[.val (.int u0), .val (.int u1), .val (.int u2), .unset, .unset, .unset, .unset, .unset, .unset] [(.ref b112)]))
  refine Gl.go ?_ (fun t k => XS.dup X112.here hx rfl (hb hby at_4) rfl rfl k)
  show Gl _ _ _ _ (T112.setTop (mkF m 5 #[.val (.int u0), .val (.int u1), .val (.int u2), .unset, .unset, .unset, .unset, .unset, .unset] [(.ref b112), (.ref b112)]))
  refine Gl.go ?_ (fun t k => XS.iconst X112.here hx rfl (hb hby at_5) k)
  show Gl _ _ _ _ (T112.setTop (mkF m 6 #[.val (.int u0), .val (.int u1), .val (.int u2), .unset, .unset, .unset, .unset, .unset, .unset] [(.int (0 : Int32)), (.ref b112), (.ref b112)]))
  refine Gl.go ?_ (fun t k => XS.bipush X112.here hx rfl (hb hby at_6) k)
  show Gl _ _ _ _ (T112.setTop (mkF m 8 #[.val (.int u0), .val (.int u1), .val (.int u2), .unset, .unset, .unset, .unset, .unset, .unset] [(.int (58 : Int32)), (.int (0 : Int32)), (.ref b112), (.ref b112)]))
  obtain ⟨cl113, Ar113, q113, S113, N113, Hh113, G113⟩ := V_b112
  obtain ⟨T113, h113, X113, e113, W113, st113⟩ := stI X112 hx hZ e112 Ar113 (j := (0 : Int32)) (inb_of S113 ⟨by decide, by decide⟩) (g := (mkF m 8 #[.val (.int u0), .val (.int u1), .val (.int u2), .unset, .unset, .unset, .unset, .unset, .unset] [(.int (58 : Int32)), (.int (0 : Int32)), (.ref b112), (.ref b112)])) rfl rfl (hb hby at_8)
  replace S_R := S_R.wr W113
  replace B_R := B_R.other W113 ne_aR_b112
  replace Z0 := Nat.le_trans Z0 (Keep.of_wr W113).1
  have V_b112 : Arv Z h113 b112 k112 .int (32 : Int32) [(.int (58 : Int32)), (.int (0 : Int32)), (.int (0 : Int32)), (.int (0 : Int32)), (.int (0 : Int32)), (.int (0 : Int32)), (.int (0 : Int32)), (.int (0 : Int32)), (.int (0 : Int32)), (.int (0 : Int32)), (.int (0 : Int32)), (.int (0 : Int32)), (.int (0 : Int32)), (.int (0 : Int32)), (.int (0 : Int32)), (.int (0 : Int32)), (.int (0 : Int32)), (.int (0 : Int32)), (.int (0 : Int32)), (.int (0 : Int32)), (.int (0 : Int32)), (.int (0 : Int32)), (.int (0 : Int32)), (.int (0 : Int32)), (.int (0 : Int32)), (.int (0 : Int32)), (.int (0 : Int32)), (.int (0 : Int32)), (.int (0 : Int32)), (.int (0 : Int32)), (.int (0 : Int32)), (.int (0 : Int32))] (.int (0 : Int32)) := Arv.set Ar113 q113 S113 N113 Hh113 G113 rfl W113 0 rfl (Nat.le_of_ble_eq_true rfl)
  clear Hh113 G113 N113 S113 q113 W113
  clear Ar113
  clear cl113
  replace NF := Fr.snoc X113 NF g_b112
  refine Gl.go ?_ st113
  clear st113 X112 e112
  show Gl _ _ _ _ (T113.setTop (mkF m 9 #[.val (.int u0), .val (.int u1), .val (.int u2), .unset, .unset, .unset, .unset, .unset, .unset] [(.ref b112)]))
  refine Gl.go ?_ (fun t k => XS.dup X113.here hx rfl (hb hby at_9) rfl rfl k)
  show Gl _ _ _ _ (T113.setTop (mkF m 10 #[.val (.int u0), .val (.int u1), .val (.int u2), .unset, .unset, .unset, .unset, .unset, .unset] [(.ref b112), (.ref b112)]))
  refine Gl.go ?_ (fun t k => XS.iconst X113.here hx rfl (hb hby at_10) k)
  show Gl _ _ _ _ (T113.setTop (mkF m 11 #[.val (.int u0), .val (.int u1), .val (.int u2), .unset, .unset, .unset, .unset, .unset, .unset] [(.int (1 : Int32)), (.ref b112), (.ref b112)]))
  refine Gl.go ?_ (fun t k => XS.bipush X113.here hx rfl (hb hby at_11) k)
  show Gl _ _ _ _ (T113.setTop (mkF m 13 #[.val (.int u0), .val (.int u1), .val (.int u2), .unset, .unset, .unset, .unset, .unset, .unset] [(.int (58 : Int32)), (.int (1 : Int32)), (.ref b112), (.ref b112)]))
  obtain ⟨cl114, Ar114, q114, S114, N114, Hh114, G114⟩ := V_b112
  obtain ⟨T114, h114, X114, e114, W114, st114⟩ := stI X113 hx hZ e113 Ar114 (j := (1 : Int32)) (inb_of S114 ⟨by decide, by decide⟩) (g := (mkF m 13 #[.val (.int u0), .val (.int u1), .val (.int u2), .unset, .unset, .unset, .unset, .unset, .unset] [(.int (58 : Int32)), (.int (1 : Int32)), (.ref b112), (.ref b112)])) rfl rfl (hb hby at_13)
  replace S_R := S_R.wr W114
  replace B_R := B_R.other W114 ne_aR_b112
  replace Z0 := Nat.le_trans Z0 (Keep.of_wr W114).1
  have V_b112 : Arv Z h114 b112 k112 .int (32 : Int32) [(.int (58 : Int32)), (.int (58 : Int32)), (.int (0 : Int32)), (.int (0 : Int32)), (.int (0 : Int32)), (.int (0 : Int32)), (.int (0 : Int32)), (.int (0 : Int32)), (.int (0 : Int32)), (.int (0 : Int32)), (.int (0 : Int32)), (.int (0 : Int32)), (.int (0 : Int32)), (.int (0 : Int32)), (.int (0 : Int32)), (.int (0 : Int32)), (.int (0 : Int32)), (.int (0 : Int32)), (.int (0 : Int32)), (.int (0 : Int32)), (.int (0 : Int32)), (.int (0 : Int32)), (.int (0 : Int32)), (.int (0 : Int32)), (.int (0 : Int32)), (.int (0 : Int32)), (.int (0 : Int32)), (.int (0 : Int32)), (.int (0 : Int32)), (.int (0 : Int32)), (.int (0 : Int32)), (.int (0 : Int32))] (.int (0 : Int32)) := Arv.set Ar114 q114 S114 N114 Hh114 G114 rfl W114 1 rfl (Nat.le_of_ble_eq_true rfl)
  clear Hh114 G114 N114 S114 q114 W114
  clear Ar114
  clear cl114
  replace NF := Fr.snoc X114 NF g_b112
  refine Gl.go ?_ st114
  clear st114 X113 e113
  show Gl _ _ _ _ (T114.setTop (mkF m 14 #[.val (.int u0), .val (.int u1), .val (.int u2), .unset, .unset, .unset, .unset, .unset, .unset] [(.ref b112)]))
  refine Gl.go ?_ (fun t k => XS.dup X114.here hx rfl (hb hby at_14) rfl rfl k)
  show Gl _ _ _ _ (T114.setTop (mkF m 15 #[.val (.int u0), .val (.int u1), .val (.int u2), .unset, .unset, .unset, .unset, .unset, .unset] [(.ref b112), (.ref b112)]))
  refine Gl.go ?_ (fun t k => XS.iconst X114.here hx rfl (hb hby at_15) k)
  show Gl _ _ _ _ (T114.setTop (mkF m 16 #[.val (.int u0), .val (.int u1), .val (.int u2), .unset, .unset, .unset, .unset, .unset, .unset] [(.int (2 : Int32)), (.ref b112), (.ref b112)]))
  refine Gl.go ?_ (fun t k => XS.bipush X114.here hx rfl (hb hby at_16) k)
  show Gl _ _ _ _ (T114.setTop (mkF m 18 #[.val (.int u0), .val (.int u1), .val (.int u2), .unset, .unset, .unset, .unset, .unset, .unset] [(.int (65 : Int32)), (.int (2 : Int32)), (.ref b112), (.ref b112)]))
  obtain ⟨cl115, Ar115, q115, S115, N115, Hh115, G115⟩ := V_b112
  obtain ⟨T115, h115, X115, e115, W115, st115⟩ := stI X114 hx hZ e114 Ar115 (j := (2 : Int32)) (inb_of S115 ⟨by decide, by decide⟩) (g := (mkF m 18 #[.val (.int u0), .val (.int u1), .val (.int u2), .unset, .unset, .unset, .unset, .unset, .unset] [(.int (65 : Int32)), (.int (2 : Int32)), (.ref b112), (.ref b112)])) rfl rfl (hb hby at_18)
  replace S_R := S_R.wr W115
  replace B_R := B_R.other W115 ne_aR_b112
  replace Z0 := Nat.le_trans Z0 (Keep.of_wr W115).1
  have V_b112 : Arv Z h115 b112 k112 .int (32 : Int32) [(.int (58 : Int32)), (.int (58 : Int32)), (.int (65 : Int32)), (.int (0 : Int32)), (.int (0 : Int32)), (.int (0 : Int32)), (.int (0 : Int32)), (.int (0 : Int32)), (.int (0 : Int32)), (.int (0 : Int32)), (.int (0 : Int32)), (.int (0 : Int32)), (.int (0 : Int32)), (.int (0 : Int32)), (.int (0 : Int32)), (.int (0 : Int32)), (.int (0 : Int32)), (.int (0 : Int32)), (.int (0 : Int32)), (.int (0 : Int32)), (.int (0 : Int32)), (.int (0 : Int32)), (.int (0 : Int32)), (.int (0 : Int32)), (.int (0 : Int32)), (.int (0 : Int32)), (.int (0 : Int32)), (.int (0 : Int32)), (.int (0 : Int32)), (.int (0 : Int32)), (.int (0 : Int32)), (.int (0 : Int32))] (.int (0 : Int32)) := Arv.set Ar115 q115 S115 N115 Hh115 G115 rfl W115 2 rfl (Nat.le_of_ble_eq_true rfl)
  clear Hh115 G115 N115 S115 q115 W115
  clear Ar115
  clear cl115
  replace NF := Fr.snoc X115 NF g_b112
  refine Gl.go ?_ st115
  clear st115 X114 e114
  show Gl _ _ _ _ (T115.setTop (mkF m 19 #[.val (.int u0), .val (.int u1), .val (.int u2), .unset, .unset, .unset, .unset, .unset, .unset] [(.ref b112)]))
  refine Gl.go ?_ (fun t k => XS.dup X115.here hx rfl (hb hby at_19) rfl rfl k)
  show Gl _ _ _ _ (T115.setTop (mkF m 20 #[.val (.int u0), .val (.int u1), .val (.int u2), .unset, .unset, .unset, .unset, .unset, .unset] [(.ref b112), (.ref b112)]))
  refine Gl.go ?_ (fun t k => XS.iconst X115.here hx rfl (hb hby at_20) k)
  show Gl _ _ _ _ (T115.setTop (mkF m 21 #[.val (.int u0), .val (.int u1), .val (.int u2), .unset, .unset, .unset, .unset, .unset, .unset] [(.int (3 : Int32)), (.ref b112), (.ref b112)]))
  refine Gl.go ?_ (fun t k => XS.bipush X115.here hx rfl (hb hby at_21) k)
  show Gl _ _ _ _ (T115.setTop (mkF m 23 #[.val (.int u0), .val (.int u1), .val (.int u2), .unset, .unset, .unset, .unset, .unset, .unset] [(.int (90 : Int32)), (.int (3 : Int32)), (.ref b112), (.ref b112)]))
  obtain ⟨cl116, Ar116, q116, S116, N116, Hh116, G116⟩ := V_b112
  obtain ⟨T116, h116, X116, e116, W116, st116⟩ := stI X115 hx hZ e115 Ar116 (j := (3 : Int32)) (inb_of S116 ⟨by decide, by decide⟩) (g := (mkF m 23 #[.val (.int u0), .val (.int u1), .val (.int u2), .unset, .unset, .unset, .unset, .unset, .unset] [(.int (90 : Int32)), (.int (3 : Int32)), (.ref b112), (.ref b112)])) rfl rfl (hb hby at_23)
  replace S_R := S_R.wr W116
  replace B_R := B_R.other W116 ne_aR_b112
  replace Z0 := Nat.le_trans Z0 (Keep.of_wr W116).1
  have V_b112 : Arv Z h116 b112 k112 .int (32 : Int32) [(.int (58 : Int32)), (.int (58 : Int32)), (.int (65 : Int32)), (.int (90 : Int32)), (.int (0 : Int32)), (.int (0 : Int32)), (.int (0 : Int32)), (.int (0 : Int32)), (.int (0 : Int32)), (.int (0 : Int32)), (.int (0 : Int32)), (.int (0 : Int32)), (.int (0 : Int32)), (.int (0 : Int32)), (.int (0 : Int32)), (.int (0 : Int32)), (.int (0 : Int32)), (.int (0 : Int32)), (.int (0 : Int32)), (.int (0 : Int32)), (.int (0 : Int32)), (.int (0 : Int32)), (.int (0 : Int32)), (.int (0 : Int32)), (.int (0 : Int32)), (.int (0 : Int32)), (.int (0 : Int32)), (.int (0 : Int32)), (.int (0 : Int32)), (.int (0 : Int32)), (.int (0 : Int32)), (.int (0 : Int32))] (.int (0 : Int32)) := Arv.set Ar116 q116 S116 N116 Hh116 G116 rfl W116 3 rfl (Nat.le_of_ble_eq_true rfl)
  clear Hh116 G116 N116 S116 q116 W116
  clear Ar116
  clear cl116
  replace NF := Fr.snoc X116 NF g_b112
  refine Gl.go ?_ st116
  clear st116 X115 e115
  show Gl _ _ _ _ (T116.setTop (mkF m 24 #[.val (.int u0), .val (.int u1), .val (.int u2), .unset, .unset, .unset, .unset, .unset, .unset] [(.ref b112)]))
  refine Gl.go ?_ (fun t k => XS.dup X116.here hx rfl (hb hby at_24) rfl rfl k)
  show Gl _ _ _ _ (T116.setTop (mkF m 25 #[.val (.int u0), .val (.int u1), .val (.int u2), .unset, .unset, .unset, .unset, .unset, .unset] [(.ref b112), (.ref b112)]))
  refine Gl.go ?_ (fun t k => XS.iconst X116.here hx rfl (hb hby at_25) k)
  show Gl _ _ _ _ (T116.setTop (mkF m 26 #[.val (.int u0), .val (.int u1), .val (.int u2), .unset, .unset, .unset, .unset, .unset, .unset] [(.int (4 : Int32)), (.ref b112), (.ref b112)]))
  refine Gl.go ?_ (fun t k => XS.bipush X116.here hx rfl (hb hby at_26) k)
  show Gl _ _ _ _ (T116.setTop (mkF m 28 #[.val (.int u0), .val (.int u1), .val (.int u2), .unset, .unset, .unset, .unset, .unset, .unset] [(.int (95 : Int32)), (.int (4 : Int32)), (.ref b112), (.ref b112)]))
  obtain ⟨cl117, Ar117, q117, S117, N117, Hh117, G117⟩ := V_b112
  obtain ⟨T117, h117, X117, e117, W117, st117⟩ := stI X116 hx hZ e116 Ar117 (j := (4 : Int32)) (inb_of S117 ⟨by decide, by decide⟩) (g := (mkF m 28 #[.val (.int u0), .val (.int u1), .val (.int u2), .unset, .unset, .unset, .unset, .unset, .unset] [(.int (95 : Int32)), (.int (4 : Int32)), (.ref b112), (.ref b112)])) rfl rfl (hb hby at_28)
  replace S_R := S_R.wr W117
  replace B_R := B_R.other W117 ne_aR_b112
  replace Z0 := Nat.le_trans Z0 (Keep.of_wr W117).1
  have V_b112 : Arv Z h117 b112 k112 .int (32 : Int32) [(.int (58 : Int32)), (.int (58 : Int32)), (.int (65 : Int32)), (.int (90 : Int32)), (.int (95 : Int32)), (.int (0 : Int32)), (.int (0 : Int32)), (.int (0 : Int32)), (.int (0 : Int32)), (.int (0 : Int32)), (.int (0 : Int32)), (.int (0 : Int32)), (.int (0 : Int32)), (.int (0 : Int32)), (.int (0 : Int32)), (.int (0 : Int32)), (.int (0 : Int32)), (.int (0 : Int32)), (.int (0 : Int32)), (.int (0 : Int32)), (.int (0 : Int32)), (.int (0 : Int32)), (.int (0 : Int32)), (.int (0 : Int32)), (.int (0 : Int32)), (.int (0 : Int32)), (.int (0 : Int32)), (.int (0 : Int32)), (.int (0 : Int32)), (.int (0 : Int32)), (.int (0 : Int32)), (.int (0 : Int32))] (.int (0 : Int32)) := Arv.set Ar117 q117 S117 N117 Hh117 G117 rfl W117 4 rfl (Nat.le_of_ble_eq_true rfl)
  clear Hh117 G117 N117 S117 q117 W117
  clear Ar117
  clear cl117
  replace NF := Fr.snoc X117 NF g_b112
  refine Gl.go ?_ st117
  clear st117 X116 e116
  show Gl _ _ _ _ (T117.setTop (mkF m 29 #[.val (.int u0), .val (.int u1), .val (.int u2), .unset, .unset, .unset, .unset, .unset, .unset] [(.ref b112)]))
  refine Gl.go ?_ (fun t k => XS.dup X117.here hx rfl (hb hby at_29) rfl rfl k)
  show Gl _ _ _ _ (T117.setTop (mkF m 30 #[.val (.int u0), .val (.int u1), .val (.int u2), .unset, .unset, .unset, .unset, .unset, .unset] [(.ref b112), (.ref b112)]))
  refine Gl.go ?_ (fun t k => XS.iconst X117.here hx rfl (hb hby at_30) k)
  show Gl _ _ _ _ (T117.setTop (mkF m 31 #[.val (.int u0), .val (.int u1), .val (.int u2), .unset, .unset, .unset, .unset, .unset, .unset] [(.int (5 : Int32)), (.ref b112), (.ref b112)]))
  refine Gl.go ?_ (fun t k => XS.bipush X117.here hx rfl (hb hby at_31) k)
  show Gl _ _ _ _ (T117.setTop (mkF m 33 #[.val (.int u0), .val (.int u1), .val (.int u2), .unset, .unset, .unset, .unset, .unset, .unset] [(.int (95 : Int32)), (.int (5 : Int32)), (.ref b112), (.ref b112)]))
  obtain ⟨cl118, Ar118, q118, S118, N118, Hh118, G118⟩ := V_b112
  obtain ⟨T118, h118, X118, e118, W118, st118⟩ := stI X117 hx hZ e117 Ar118 (j := (5 : Int32)) (inb_of S118 ⟨by decide, by decide⟩) (g := (mkF m 33 #[.val (.int u0), .val (.int u1), .val (.int u2), .unset, .unset, .unset, .unset, .unset, .unset] [(.int (95 : Int32)), (.int (5 : Int32)), (.ref b112), (.ref b112)])) rfl rfl (hb hby at_33)
  replace S_R := S_R.wr W118
  replace B_R := B_R.other W118 ne_aR_b112
  replace Z0 := Nat.le_trans Z0 (Keep.of_wr W118).1
  have V_b112 : Arv Z h118 b112 k112 .int (32 : Int32) [(.int (58 : Int32)), (.int (58 : Int32)), (.int (65 : Int32)), (.int (90 : Int32)), (.int (95 : Int32)), (.int (95 : Int32)), (.int (0 : Int32)), (.int (0 : Int32)), (.int (0 : Int32)), (.int (0 : Int32)), (.int (0 : Int32)), (.int (0 : Int32)), (.int (0 : Int32)), (.int (0 : Int32)), (.int (0 : Int32)), (.int (0 : Int32)), (.int (0 : Int32)), (.int (0 : Int32)), (.int (0 : Int32)), (.int (0 : Int32)), (.int (0 : Int32)), (.int (0 : Int32)), (.int (0 : Int32)), (.int (0 : Int32)), (.int (0 : Int32)), (.int (0 : Int32)), (.int (0 : Int32)), (.int (0 : Int32)), (.int (0 : Int32)), (.int (0 : Int32)), (.int (0 : Int32)), (.int (0 : Int32))] (.int (0 : Int32)) := Arv.set Ar118 q118 S118 N118 Hh118 G118 rfl W118 5 rfl (Nat.le_of_ble_eq_true rfl)
  clear Hh118 G118 N118 S118 q118 W118
  clear Ar118
  clear cl118
  replace NF := Fr.snoc X118 NF g_b112
  refine Gl.go ?_ st118
  clear st118 X117 e117
  show Gl _ _ _ _ (T118.setTop (mkF m 34 #[.val (.int u0), .val (.int u1), .val (.int u2), .unset, .unset, .unset, .unset, .unset, .unset] [(.ref b112)]))
  refine Gl.go ?_ (fun t k => XS.dup X118.here hx rfl (hb hby at_34) rfl rfl k)
  show Gl _ _ _ _ (T118.setTop (mkF m 35 #[.val (.int u0), .val (.int u1), .val (.int u2), .unset, .unset, .unset, .unset, .unset, .unset] [(.ref b112), (.ref b112)]))
  refine Gl.go ?_ (fun t k => XS.bipush X118.here hx rfl (hb hby at_35) k)
  show Gl _ _ _ _ (T118.setTop (mkF m 37 #[.val (.int u0), .val (.int u1), .val (.int u2), .unset, .unset, .unset, .unset, .unset, .unset] [(.int (6 : Int32)), (.ref b112), (.ref b112)]))
  refine Gl.go ?_ (fun t k => XS.bipush X118.here hx rfl (hb hby at_37) k)
  show Gl _ _ _ _ (T118.setTop (mkF m 39 #[.val (.int u0), .val (.int u1), .val (.int u2), .unset, .unset, .unset, .unset, .unset, .unset] [(.int (97 : Int32)), (.int (6 : Int32)), (.ref b112), (.ref b112)]))
  obtain ⟨cl119, Ar119, q119, S119, N119, Hh119, G119⟩ := V_b112
  obtain ⟨T119, h119, X119, e119, W119, st119⟩ := stI X118 hx hZ e118 Ar119 (j := (6 : Int32)) (inb_of S119 ⟨by decide, by decide⟩) (g := (mkF m 39 #[.val (.int u0), .val (.int u1), .val (.int u2), .unset, .unset, .unset, .unset, .unset, .unset] [(.int (97 : Int32)), (.int (6 : Int32)), (.ref b112), (.ref b112)])) rfl rfl (hb hby at_39)
  replace S_R := S_R.wr W119
  replace B_R := B_R.other W119 ne_aR_b112
  replace Z0 := Nat.le_trans Z0 (Keep.of_wr W119).1
  have V_b112 : Arv Z h119 b112 k112 .int (32 : Int32) [(.int (58 : Int32)), (.int (58 : Int32)), (.int (65 : Int32)), (.int (90 : Int32)), (.int (95 : Int32)), (.int (95 : Int32)), (.int (97 : Int32)), (.int (0 : Int32)), (.int (0 : Int32)), (.int (0 : Int32)), (.int (0 : Int32)), (.int (0 : Int32)), (.int (0 : Int32)), (.int (0 : Int32)), (.int (0 : Int32)), (.int (0 : Int32)), (.int (0 : Int32)), (.int (0 : Int32)), (.int (0 : Int32)), (.int (0 : Int32)), (.int (0 : Int32)), (.int (0 : Int32)), (.int (0 : Int32)), (.int (0 : Int32)), (.int (0 : Int32)), (.int (0 : Int32)), (.int (0 : Int32)), (.int (0 : Int32)), (.int (0 : Int32)), (.int (0 : Int32)), (.int (0 : Int32)), (.int (0 : Int32))] (.int (0 : Int32)) := Arv.set Ar119 q119 S119 N119 Hh119 G119 rfl W119 6 rfl (Nat.le_of_ble_eq_true rfl)
  clear Hh119 G119 N119 S119 q119 W119
  clear Ar119
  clear cl119
  replace NF := Fr.snoc X119 NF g_b112
  refine Gl.go ?_ st119
  clear st119 X118 e118
  show Gl _ _ _ _ (T119.setTop (mkF m 40 #[.val (.int u0), .val (.int u1), .val (.int u2), .unset, .unset, .unset, .unset, .unset, .unset] [(.ref b112)]))
  refine Gl.go ?_ (fun t k => XS.dup X119.here hx rfl (hb hby at_40) rfl rfl k)
  show Gl _ _ _ _ (T119.setTop (mkF m 41 #[.val (.int u0), .val (.int u1), .val (.int u2), .unset, .unset, .unset, .unset, .unset, .unset] [(.ref b112), (.ref b112)]))
  refine Gl.go ?_ (fun t k => XS.bipush X119.here hx rfl (hb hby at_41) k)
  show Gl _ _ _ _ (T119.setTop (mkF m 43 #[.val (.int u0), .val (.int u1), .val (.int u2), .unset, .unset, .unset, .unset, .unset, .unset] [(.int (7 : Int32)), (.ref b112), (.ref b112)]))
  refine Gl.go ?_ (fun t k => XS.bipush X119.here hx rfl (hb hby at_43) k)
  show Gl _ _ _ _ (T119.setTop (mkF m 45 #[.val (.int u0), .val (.int u1), .val (.int u2), .unset, .unset, .unset, .unset, .unset, .unset] [(.int (122 : Int32)), (.int (7 : Int32)), (.ref b112), (.ref b112)]))
  obtain ⟨cl120, Ar120, q120, S120, N120, Hh120, G120⟩ := V_b112
  obtain ⟨T120, h120, X120, e120, W120, st120⟩ := stI X119 hx hZ e119 Ar120 (j := (7 : Int32)) (inb_of S120 ⟨by decide, by decide⟩) (g := (mkF m 45 #[.val (.int u0), .val (.int u1), .val (.int u2), .unset, .unset, .unset, .unset, .unset, .unset] [(.int (122 : Int32)), (.int (7 : Int32)), (.ref b112), (.ref b112)])) rfl rfl (hb hby at_45)
  replace S_R := S_R.wr W120
  replace B_R := B_R.other W120 ne_aR_b112
  replace Z0 := Nat.le_trans Z0 (Keep.of_wr W120).1
  have V_b112 : Arv Z h120 b112 k112 .int (32 : Int32) [(.int (58 : Int32)), (.int (58 : Int32)), (.int (65 : Int32)), (.int (90 : Int32)), (.int (95 : Int32)), (.int (95 : Int32)), (.int (97 : Int32)), (.int (122 : Int32)), (.int (0 : Int32)), (.int (0 : Int32)), (.int (0 : Int32)), (.int (0 : Int32)), (.int (0 : Int32)), (.int (0 : Int32)), (.int (0 : Int32)), (.int (0 : Int32)), (.int (0 : Int32)), (.int (0 : Int32)), (.int (0 : Int32)), (.int (0 : Int32)), (.int (0 : Int32)), (.int (0 : Int32)), (.int (0 : Int32)), (.int (0 : Int32)), (.int (0 : Int32)), (.int (0 : Int32)), (.int (0 : Int32)), (.int (0 : Int32)), (.int (0 : Int32)), (.int (0 : Int32)), (.int (0 : Int32)), (.int (0 : Int32))] (.int (0 : Int32)) := Arv.set Ar120 q120 S120 N120 Hh120 G120 rfl W120 7 rfl (Nat.le_of_ble_eq_true rfl)
  clear Hh120 G120 N120 S120 q120 W120
  clear Ar120
  clear cl120
  replace NF := Fr.snoc X120 NF g_b112
  refine Gl.go ?_ st120
  clear st120 X119 e119
  show Gl _ _ _ _ (T120.setTop (mkF m 46 #[.val (.int u0), .val (.int u1), .val (.int u2), .unset, .unset, .unset, .unset, .unset, .unset] [(.ref b112)]))
  refine Gl.go ?_ (fun t k => XS.dup X120.here hx rfl (hb hby at_46) rfl rfl k)
  show Gl _ _ _ _ (T120.setTop (mkF m 47 #[.val (.int u0), .val (.int u1), .val (.int u2), .unset, .unset, .unset, .unset, .unset, .unset] [(.ref b112), (.ref b112)]))
  refine Gl.go ?_ (fun t k => XS.bipush X120.here hx rfl (hb hby at_47) k)
  show Gl _ _ _ _ (T120.setTop (mkF m 49 #[.val (.int u0), .val (.int u1), .val (.int u2), .unset, .unset, .unset, .unset, .unset, .unset] [(.int (8 : Int32)), (.ref b112), (.ref b112)]))
  refine Gl.go ?_ (fun t k => XS.sipush X120.here hx rfl (hb hby at_49) k)
  show Gl _ _ _ _ (T120.setTop (mkF m 52 #[.val (.int u0), .val (.int u1), .val (.int u2), .unset, .unset, .unset, .unset, .unset, .unset] [(.int (192 : Int32)), (.int (8 : Int32)), (.ref b112), (.ref b112)]))
  obtain ⟨cl121, Ar121, q121, S121, N121, Hh121, G121⟩ := V_b112
  obtain ⟨T121, h121, X121, e121, W121, st121⟩ := stI X120 hx hZ e120 Ar121 (j := (8 : Int32)) (inb_of S121 ⟨by decide, by decide⟩) (g := (mkF m 52 #[.val (.int u0), .val (.int u1), .val (.int u2), .unset, .unset, .unset, .unset, .unset, .unset] [(.int (192 : Int32)), (.int (8 : Int32)), (.ref b112), (.ref b112)])) rfl rfl (hb hby at_52)
  replace S_R := S_R.wr W121
  replace B_R := B_R.other W121 ne_aR_b112
  replace Z0 := Nat.le_trans Z0 (Keep.of_wr W121).1
  have V_b112 : Arv Z h121 b112 k112 .int (32 : Int32) [(.int (58 : Int32)), (.int (58 : Int32)), (.int (65 : Int32)), (.int (90 : Int32)), (.int (95 : Int32)), (.int (95 : Int32)), (.int (97 : Int32)), (.int (122 : Int32)), (.int (192 : Int32)), (.int (0 : Int32)), (.int (0 : Int32)), (.int (0 : Int32)), (.int (0 : Int32)), (.int (0 : Int32)), (.int (0 : Int32)), (.int (0 : Int32)), (.int (0 : Int32)), (.int (0 : Int32)), (.int (0 : Int32)), (.int (0 : Int32)), (.int (0 : Int32)), (.int (0 : Int32)), (.int (0 : Int32)), (.int (0 : Int32)), (.int (0 : Int32)), (.int (0 : Int32)), (.int (0 : Int32)), (.int (0 : Int32)), (.int (0 : Int32)), (.int (0 : Int32)), (.int (0 : Int32)), (.int (0 : Int32))] (.int (0 : Int32)) := Arv.set Ar121 q121 S121 N121 Hh121 G121 rfl W121 8 rfl (Nat.le_of_ble_eq_true rfl)
  clear Hh121 G121 N121 S121 q121 W121
  clear Ar121
  clear cl121
  replace NF := Fr.snoc X121 NF g_b112
  refine Gl.go ?_ st121
  clear st121 X120 e120
  show Gl _ _ _ _ (T121.setTop (mkF m 53 #[.val (.int u0), .val (.int u1), .val (.int u2), .unset, .unset, .unset, .unset, .unset, .unset] [(.ref b112)]))
  refine Gl.go ?_ (fun t k => XS.dup X121.here hx rfl (hb hby at_53) rfl rfl k)
  show Gl _ _ _ _ (T121.setTop (mkF m 54 #[.val (.int u0), .val (.int u1), .val (.int u2), .unset, .unset, .unset, .unset, .unset, .unset] [(.ref b112), (.ref b112)]))
  refine Gl.go ?_ (fun t k => XS.bipush X121.here hx rfl (hb hby at_54) k)
  show Gl _ _ _ _ (T121.setTop (mkF m 56 #[.val (.int u0), .val (.int u1), .val (.int u2), .unset, .unset, .unset, .unset, .unset, .unset] [(.int (9 : Int32)), (.ref b112), (.ref b112)]))
  refine Gl.go ?_ (fun t k => XS.sipush X121.here hx rfl (hb hby at_56) k)
  show Gl _ _ _ _ (T121.setTop (mkF m 59 #[.val (.int u0), .val (.int u1), .val (.int u2), .unset, .unset, .unset, .unset, .unset, .unset] [(.int (214 : Int32)), (.int (9 : Int32)), (.ref b112), (.ref b112)]))
  obtain ⟨cl122, Ar122, q122, S122, N122, Hh122, G122⟩ := V_b112
  obtain ⟨T122, h122, X122, e122, W122, st122⟩ := stI X121 hx hZ e121 Ar122 (j := (9 : Int32)) (inb_of S122 ⟨by decide, by decide⟩) (g := (mkF m 59 #[.val (.int u0), .val (.int u1), .val (.int u2), .unset, .unset, .unset, .unset, .unset, .unset] [(.int (214 : Int32)), (.int (9 : Int32)), (.ref b112), (.ref b112)])) rfl rfl (hb hby at_59)
  replace S_R := S_R.wr W122
  replace B_R := B_R.other W122 ne_aR_b112
  replace Z0 := Nat.le_trans Z0 (Keep.of_wr W122).1
  have V_b112 : Arv Z h122 b112 k112 .int (32 : Int32) [(.int (58 : Int32)), (.int (58 : Int32)), (.int (65 : Int32)), (.int (90 : Int32)), (.int (95 : Int32)), (.int (95 : Int32)), (.int (97 : Int32)), (.int (122 : Int32)), (.int (192 : Int32)), (.int (214 : Int32)), (.int (0 : Int32)), (.int (0 : Int32)), (.int (0 : Int32)), (.int (0 : Int32)), (.int (0 : Int32)), (.int (0 : Int32)), (.int (0 : Int32)), (.int (0 : Int32)), (.int (0 : Int32)), (.int (0 : Int32)), (.int (0 : Int32)), (.int (0 : Int32)), (.int (0 : Int32)), (.int (0 : Int32)), (.int (0 : Int32)), (.int (0 : Int32)), (.int (0 : Int32)), (.int (0 : Int32)), (.int (0 : Int32)), (.int (0 : Int32)), (.int (0 : Int32)), (.int (0 : Int32))] (.int (0 : Int32)) := Arv.set Ar122 q122 S122 N122 Hh122 G122 rfl W122 9 rfl (Nat.le_of_ble_eq_true rfl)
  clear Hh122 G122 N122 S122 q122 W122
  clear Ar122
  clear cl122
  replace NF := Fr.snoc X122 NF g_b112
  refine Gl.go ?_ st122
  clear st122 X121 e121
  show Gl _ _ _ _ (T122.setTop (mkF m 60 #[.val (.int u0), .val (.int u1), .val (.int u2), .unset, .unset, .unset, .unset, .unset, .unset] [(.ref b112)]))
  refine Gl.go ?_ (fun t k => XS.dup X122.here hx rfl (hb hby at_60) rfl rfl k)
  show Gl _ _ _ _ (T122.setTop (mkF m 61 #[.val (.int u0), .val (.int u1), .val (.int u2), .unset, .unset, .unset, .unset, .unset, .unset] [(.ref b112), (.ref b112)]))
  refine Gl.go ?_ (fun t k => XS.bipush X122.here hx rfl (hb hby at_61) k)
  show Gl _ _ _ _ (T122.setTop (mkF m 63 #[.val (.int u0), .val (.int u1), .val (.int u2), .unset, .unset, .unset, .unset, .unset, .unset] [(.int (10 : Int32)), (.ref b112), (.ref b112)]))
  refine Gl.go ?_ (fun t k => XS.sipush X122.here hx rfl (hb hby at_63) k)
  show Gl _ _ _ _ (T122.setTop (mkF m 66 #[.val (.int u0), .val (.int u1), .val (.int u2), .unset, .unset, .unset, .unset, .unset, .unset] [(.int (216 : Int32)), (.int (10 : Int32)), (.ref b112), (.ref b112)]))
  obtain ⟨cl123, Ar123, q123, S123, N123, Hh123, G123⟩ := V_b112
  obtain ⟨T123, h123, X123, e123, W123, st123⟩ := stI X122 hx hZ e122 Ar123 (j := (10 : Int32)) (inb_of S123 ⟨by decide, by decide⟩) (g := (mkF m 66 #[.val (.int u0), .val (.int u1), .val (.int u2), .unset, .unset, .unset, .unset, .unset, .unset] [(.int (216 : Int32)), (.int (10 : Int32)), (.ref b112), (.ref b112)])) rfl rfl (hb hby at_66)
  replace S_R := S_R.wr W123
  replace B_R := B_R.other W123 ne_aR_b112
  replace Z0 := Nat.le_trans Z0 (Keep.of_wr W123).1
  have V_b112 : Arv Z h123 b112 k112 .int (32 : Int32) [(.int (58 : Int32)), (.int (58 : Int32)), (.int (65 : Int32)), (.int (90 : Int32)), (.int (95 : Int32)), (.int (95 : Int32)), (.int (97 : Int32)), (.int (122 : Int32)), (.int (192 : Int32)), (.int (214 : Int32)), (.int (216 : Int32)), (.int (0 : Int32)), (.int (0 : Int32)), (.int (0 : Int32)), (.int (0 : Int32)), (.int (0 : Int32)), (.int (0 : Int32)), (.int (0 : Int32)), (.int (0 : Int32)), (.int (0 : Int32)), (.int (0 : Int32)), (.int (0 : Int32)), (.int (0 : Int32)), (.int (0 : Int32)), (.int (0 : Int32)), (.int (0 : Int32)), (.int (0 : Int32)), (.int (0 : Int32)), (.int (0 : Int32)), (.int (0 : Int32)), (.int (0 : Int32)), (.int (0 : Int32))] (.int (0 : Int32)) := Arv.set Ar123 q123 S123 N123 Hh123 G123 rfl W123 10 rfl (Nat.le_of_ble_eq_true rfl)
  clear Hh123 G123 N123 S123 q123 W123
  clear Ar123
  clear cl123
  replace NF := Fr.snoc X123 NF g_b112
  refine Gl.go ?_ st123
  clear st123 X122 e122
  show Gl _ _ _ _ (T123.setTop (mkF m 67 #[.val (.int u0), .val (.int u1), .val (.int u2), .unset, .unset, .unset, .unset, .unset, .unset] [(.ref b112)]))
  refine Gl.go ?_ (fun t k => XS.dup X123.here hx rfl (hb hby at_67) rfl rfl k)
  show Gl _ _ _ _ (T123.setTop (mkF m 68 #[.val (.int u0), .val (.int u1), .val (.int u2), .unset, .unset, .unset, .unset, .unset, .unset] [(.ref b112), (.ref b112)]))
  refine Gl.go ?_ (fun t k => XS.bipush X123.here hx rfl (hb hby at_68) k)
  show Gl _ _ _ _ (T123.setTop (mkF m 70 #[.val (.int u0), .val (.int u1), .val (.int u2), .unset, .unset, .unset, .unset, .unset, .unset] [(.int (11 : Int32)), (.ref b112), (.ref b112)]))
  refine Gl.go ?_ (fun t k => XS.sipush X123.here hx rfl (hb hby at_70) k)
  show Gl _ _ _ _ (T123.setTop (mkF m 73 #[.val (.int u0), .val (.int u1), .val (.int u2), .unset, .unset, .unset, .unset, .unset, .unset] [(.int (246 : Int32)), (.int (11 : Int32)), (.ref b112), (.ref b112)]))
  obtain ⟨cl124, Ar124, q124, S124, N124, Hh124, G124⟩ := V_b112
  obtain ⟨T124, h124, X124, e124, W124, st124⟩ := stI X123 hx hZ e123 Ar124 (j := (11 : Int32)) (inb_of S124 ⟨by decide, by decide⟩) (g := (mkF m 73 #[.val (.int u0), .val (.int u1), .val (.int u2), .unset, .unset, .unset, .unset, .unset, .unset] [(.int (246 : Int32)), (.int (11 : Int32)), (.ref b112), (.ref b112)])) rfl rfl (hb hby at_73)
  replace S_R := S_R.wr W124
  replace B_R := B_R.other W124 ne_aR_b112
  replace Z0 := Nat.le_trans Z0 (Keep.of_wr W124).1
  have V_b112 : Arv Z h124 b112 k112 .int (32 : Int32) [(.int (58 : Int32)), (.int (58 : Int32)), (.int (65 : Int32)), (.int (90 : Int32)), (.int (95 : Int32)), (.int (95 : Int32)), (.int (97 : Int32)), (.int (122 : Int32)), (.int (192 : Int32)), (.int (214 : Int32)), (.int (216 : Int32)), (.int (246 : Int32)), (.int (0 : Int32)), (.int (0 : Int32)), (.int (0 : Int32)), (.int (0 : Int32)), (.int (0 : Int32)), (.int (0 : Int32)), (.int (0 : Int32)), (.int (0 : Int32)), (.int (0 : Int32)), (.int (0 : Int32)), (.int (0 : Int32)), (.int (0 : Int32)), (.int (0 : Int32)), (.int (0 : Int32)), (.int (0 : Int32)), (.int (0 : Int32)), (.int (0 : Int32)), (.int (0 : Int32)), (.int (0 : Int32)), (.int (0 : Int32))] (.int (0 : Int32)) := Arv.set Ar124 q124 S124 N124 Hh124 G124 rfl W124 11 rfl (Nat.le_of_ble_eq_true rfl)
  clear Hh124 G124 N124 S124 q124 W124
  clear Ar124
  clear cl124
  replace NF := Fr.snoc X124 NF g_b112
  refine Gl.go ?_ st124
  clear st124 X123 e123
  show Gl _ _ _ _ (T124.setTop (mkF m 74 #[.val (.int u0), .val (.int u1), .val (.int u2), .unset, .unset, .unset, .unset, .unset, .unset] [(.ref b112)]))
  refine Gl.go ?_ (fun t k => XS.dup X124.here hx rfl (hb hby at_74) rfl rfl k)
  show Gl _ _ _ _ (T124.setTop (mkF m 75 #[.val (.int u0), .val (.int u1), .val (.int u2), .unset, .unset, .unset, .unset, .unset, .unset] [(.ref b112), (.ref b112)]))
  refine Gl.go ?_ (fun t k => XS.bipush X124.here hx rfl (hb hby at_75) k)
  show Gl _ _ _ _ (T124.setTop (mkF m 77 #[.val (.int u0), .val (.int u1), .val (.int u2), .unset, .unset, .unset, .unset, .unset, .unset] [(.int (12 : Int32)), (.ref b112), (.ref b112)]))
  refine Gl.go ?_ (fun t k => XS.sipush X124.here hx rfl (hb hby at_77) k)
  show Gl _ _ _ _ (T124.setTop (mkF m 80 #[.val (.int u0), .val (.int u1), .val (.int u2), .unset, .unset, .unset, .unset, .unset, .unset] [(.int (248 : Int32)), (.int (12 : Int32)), (.ref b112), (.ref b112)]))
  obtain ⟨cl125, Ar125, q125, S125, N125, Hh125, G125⟩ := V_b112
  obtain ⟨T125, h125, X125, e125, W125, st125⟩ := stI X124 hx hZ e124 Ar125 (j := (12 : Int32)) (inb_of S125 ⟨by decide, by decide⟩) (g := (mkF m 80 #[.val (.int u0), .val (.int u1), .val (.int u2), .unset, .unset, .unset, .unset, .unset, .unset] [(.int (248 : Int32)), (.int (12 : Int32)), (.ref b112), (.ref b112)])) rfl rfl (hb hby at_80)
  replace S_R := S_R.wr W125
  replace B_R := B_R.other W125 ne_aR_b112
  replace Z0 := Nat.le_trans Z0 (Keep.of_wr W125).1
  have V_b112 : Arv Z h125 b112 k112 .int (32 : Int32) [(.int (58 : Int32)), (.int (58 : Int32)), (.int (65 : Int32)), (.int (90 : Int32)), (.int (95 : Int32)), (.int (95 : Int32)), (.int (97 : Int32)), (.int (122 : Int32)), (.int (192 : Int32)), (.int (214 : Int32)), (.int (216 : Int32)), (.int (246 : Int32)), (.int (248 : Int32)), (.int (0 : Int32)), (.int (0 : Int32)), (.int (0 : Int32)), (.int (0 : Int32)), (.int (0 : Int32)), (.int (0 : Int32)), (.int (0 : Int32)), (.int (0 : Int32)), (.int (0 : Int32)), (.int (0 : Int32)), (.int (0 : Int32)), (.int (0 : Int32)), (.int (0 : Int32)), (.int (0 : Int32)), (.int (0 : Int32)), (.int (0 : Int32)), (.int (0 : Int32)), (.int (0 : Int32)), (.int (0 : Int32))] (.int (0 : Int32)) := Arv.set Ar125 q125 S125 N125 Hh125 G125 rfl W125 12 rfl (Nat.le_of_ble_eq_true rfl)
  clear Hh125 G125 N125 S125 q125 W125
  clear Ar125
  clear cl125
  replace NF := Fr.snoc X125 NF g_b112
  refine Gl.go ?_ st125
  clear st125 X124 e124
  show Gl _ _ _ _ (T125.setTop (mkF m 81 #[.val (.int u0), .val (.int u1), .val (.int u2), .unset, .unset, .unset, .unset, .unset, .unset] [(.ref b112)]))
  refine Gl.go ?_ (fun t k => XS.dup X125.here hx rfl (hb hby at_81) rfl rfl k)
  show Gl _ _ _ _ (T125.setTop (mkF m 82 #[.val (.int u0), .val (.int u1), .val (.int u2), .unset, .unset, .unset, .unset, .unset, .unset] [(.ref b112), (.ref b112)]))
  refine Gl.go ?_ (fun t k => XS.bipush X125.here hx rfl (hb hby at_82) k)
  show Gl _ _ _ _ (T125.setTop (mkF m 84 #[.val (.int u0), .val (.int u1), .val (.int u2), .unset, .unset, .unset, .unset, .unset, .unset] [(.int (13 : Int32)), (.ref b112), (.ref b112)]))
  refine Gl.go ?_ (fun t k => XS.sipush X125.here hx rfl (hb hby at_84) k)
  show Gl _ _ _ _ (T125.setTop (mkF m 87 #[.val (.int u0), .val (.int u1), .val (.int u2), .unset, .unset, .unset, .unset, .unset, .unset] [(.int (767 : Int32)), (.int (13 : Int32)), (.ref b112), (.ref b112)]))
  obtain ⟨cl126, Ar126, q126, S126, N126, Hh126, G126⟩ := V_b112
  obtain ⟨T126, h126, X126, e126, W126, st126⟩ := stI X125 hx hZ e125 Ar126 (j := (13 : Int32)) (inb_of S126 ⟨by decide, by decide⟩) (g := (mkF m 87 #[.val (.int u0), .val (.int u1), .val (.int u2), .unset, .unset, .unset, .unset, .unset, .unset] [(.int (767 : Int32)), (.int (13 : Int32)), (.ref b112), (.ref b112)])) rfl rfl (hb hby at_87)
  replace S_R := S_R.wr W126
  replace B_R := B_R.other W126 ne_aR_b112
  replace Z0 := Nat.le_trans Z0 (Keep.of_wr W126).1
  have V_b112 : Arv Z h126 b112 k112 .int (32 : Int32) [(.int (58 : Int32)), (.int (58 : Int32)), (.int (65 : Int32)), (.int (90 : Int32)), (.int (95 : Int32)), (.int (95 : Int32)), (.int (97 : Int32)), (.int (122 : Int32)), (.int (192 : Int32)), (.int (214 : Int32)), (.int (216 : Int32)), (.int (246 : Int32)), (.int (248 : Int32)), (.int (767 : Int32)), (.int (0 : Int32)), (.int (0 : Int32)), (.int (0 : Int32)), (.int (0 : Int32)), (.int (0 : Int32)), (.int (0 : Int32)), (.int (0 : Int32)), (.int (0 : Int32)), (.int (0 : Int32)), (.int (0 : Int32)), (.int (0 : Int32)), (.int (0 : Int32)), (.int (0 : Int32)), (.int (0 : Int32)), (.int (0 : Int32)), (.int (0 : Int32)), (.int (0 : Int32)), (.int (0 : Int32))] (.int (0 : Int32)) := Arv.set Ar126 q126 S126 N126 Hh126 G126 rfl W126 13 rfl (Nat.le_of_ble_eq_true rfl)
  clear Hh126 G126 N126 S126 q126 W126
  clear Ar126
  clear cl126
  replace NF := Fr.snoc X126 NF g_b112
  refine Gl.go ?_ st126
  clear st126 X125 e125
  show Gl _ _ _ _ (T126.setTop (mkF m 88 #[.val (.int u0), .val (.int u1), .val (.int u2), .unset, .unset, .unset, .unset, .unset, .unset] [(.ref b112)]))
  refine Gl.go ?_ (fun t k => XS.dup X126.here hx rfl (hb hby at_88) rfl rfl k)
  show Gl _ _ _ _ (T126.setTop (mkF m 89 #[.val (.int u0), .val (.int u1), .val (.int u2), .unset, .unset, .unset, .unset, .unset, .unset] [(.ref b112), (.ref b112)]))
  refine Gl.go ?_ (fun t k => XS.bipush X126.here hx rfl (hb hby at_89) k)
  show Gl _ _ _ _ (T126.setTop (mkF m 91 #[.val (.int u0), .val (.int u1), .val (.int u2), .unset, .unset, .unset, .unset, .unset, .unset] [(.int (14 : Int32)), (.ref b112), (.ref b112)]))
  refine Gl.go ?_ (fun t k => XS.sipush X126.here hx rfl (hb hby at_91) k)
  show Gl _ _ _ _ (T126.setTop (mkF m 94 #[.val (.int u0), .val (.int u1), .val (.int u2), .unset, .unset, .unset, .unset, .unset, .unset] [(.int (880 : Int32)), (.int (14 : Int32)), (.ref b112), (.ref b112)]))
  obtain ⟨cl127, Ar127, q127, S127, N127, Hh127, G127⟩ := V_b112
  obtain ⟨T127, h127, X127, e127, W127, st127⟩ := stI X126 hx hZ e126 Ar127 (j := (14 : Int32)) (inb_of S127 ⟨by decide, by decide⟩) (g := (mkF m 94 #[.val (.int u0), .val (.int u1), .val (.int u2), .unset, .unset, .unset, .unset, .unset, .unset] [(.int (880 : Int32)), (.int (14 : Int32)), (.ref b112), (.ref b112)])) rfl rfl (hb hby at_94)
  replace S_R := S_R.wr W127
  replace B_R := B_R.other W127 ne_aR_b112
  replace Z0 := Nat.le_trans Z0 (Keep.of_wr W127).1
  have V_b112 : Arv Z h127 b112 k112 .int (32 : Int32) [(.int (58 : Int32)), (.int (58 : Int32)), (.int (65 : Int32)), (.int (90 : Int32)), (.int (95 : Int32)), (.int (95 : Int32)), (.int (97 : Int32)), (.int (122 : Int32)), (.int (192 : Int32)), (.int (214 : Int32)), (.int (216 : Int32)), (.int (246 : Int32)), (.int (248 : Int32)), (.int (767 : Int32)), (.int (880 : Int32)), (.int (0 : Int32)), (.int (0 : Int32)), (.int (0 : Int32)), (.int (0 : Int32)), (.int (0 : Int32)), (.int (0 : Int32)), (.int (0 : Int32)), (.int (0 : Int32)), (.int (0 : Int32)), (.int (0 : Int32)), (.int (0 : Int32)), (.int (0 : Int32)), (.int (0 : Int32)), (.int (0 : Int32)), (.int (0 : Int32)), (.int (0 : Int32)), (.int (0 : Int32))] (.int (0 : Int32)) := Arv.set Ar127 q127 S127 N127 Hh127 G127 rfl W127 14 rfl (Nat.le_of_ble_eq_true rfl)
  clear Hh127 G127 N127 S127 q127 W127
  clear Ar127
  clear cl127
  replace NF := Fr.snoc X127 NF g_b112
  refine Gl.go ?_ st127
  clear st127 X126 e126
  show Gl _ _ _ _ (T127.setTop (mkF m 95 #[.val (.int u0), .val (.int u1), .val (.int u2), .unset, .unset, .unset, .unset, .unset, .unset] [(.ref b112)]))
  refine Gl.go ?_ (fun t k => XS.dup X127.here hx rfl (hb hby at_95) rfl rfl k)
  show Gl _ _ _ _ (T127.setTop (mkF m 96 #[.val (.int u0), .val (.int u1), .val (.int u2), .unset, .unset, .unset, .unset, .unset, .unset] [(.ref b112), (.ref b112)]))
  refine Gl.go ?_ (fun t k => XS.bipush X127.here hx rfl (hb hby at_96) k)
  show Gl _ _ _ _ (T127.setTop (mkF m 98 #[.val (.int u0), .val (.int u1), .val (.int u2), .unset, .unset, .unset, .unset, .unset, .unset] [(.int (15 : Int32)), (.ref b112), (.ref b112)]))
  refine Gl.go ?_ (fun t k => XS.sipush X127.here hx rfl (hb hby at_98) k)
  show Gl _ _ _ _ (T127.setTop (mkF m 101 #[.val (.int u0), .val (.int u1), .val (.int u2), .unset, .unset, .unset, .unset, .unset, .unset] [(.int (893 : Int32)), (.int (15 : Int32)), (.ref b112), (.ref b112)]))
  obtain ⟨cl128, Ar128, q128, S128, N128, Hh128, G128⟩ := V_b112
  obtain ⟨T128, h128, X128, e128, W128, st128⟩ := stI X127 hx hZ e127 Ar128 (j := (15 : Int32)) (inb_of S128 ⟨by decide, by decide⟩) (g := (mkF m 101 #[.val (.int u0), .val (.int u1), .val (.int u2), .unset, .unset, .unset, .unset, .unset, .unset] [(.int (893 : Int32)), (.int (15 : Int32)), (.ref b112), (.ref b112)])) rfl rfl (hb hby at_101)
  replace S_R := S_R.wr W128
  replace B_R := B_R.other W128 ne_aR_b112
  replace Z0 := Nat.le_trans Z0 (Keep.of_wr W128).1
  have V_b112 : Arv Z h128 b112 k112 .int (32 : Int32) [(.int (58 : Int32)), (.int (58 : Int32)), (.int (65 : Int32)), (.int (90 : Int32)), (.int (95 : Int32)), (.int (95 : Int32)), (.int (97 : Int32)), (.int (122 : Int32)), (.int (192 : Int32)), (.int (214 : Int32)), (.int (216 : Int32)), (.int (246 : Int32)), (.int (248 : Int32)), (.int (767 : Int32)), (.int (880 : Int32)), (.int (893 : Int32)), (.int (0 : Int32)), (.int (0 : Int32)), (.int (0 : Int32)), (.int (0 : Int32)), (.int (0 : Int32)), (.int (0 : Int32)), (.int (0 : Int32)), (.int (0 : Int32)), (.int (0 : Int32)), (.int (0 : Int32)), (.int (0 : Int32)), (.int (0 : Int32)), (.int (0 : Int32)), (.int (0 : Int32)), (.int (0 : Int32)), (.int (0 : Int32))] (.int (0 : Int32)) := Arv.set Ar128 q128 S128 N128 Hh128 G128 rfl W128 15 rfl (Nat.le_of_ble_eq_true rfl)
  clear Hh128 G128 N128 S128 q128 W128
  clear Ar128
  clear cl128
  replace NF := Fr.snoc X128 NF g_b112
  refine Gl.go ?_ st128
  clear st128 X127 e127
  show Gl _ _ _ _ (T128.setTop (mkF m 102 #[.val (.int u0), .val (.int u1), .val (.int u2), .unset, .unset, .unset, .unset, .unset, .unset] [(.ref b112)]))
  refine Gl.go ?_ (fun t k => XS.dup X128.here hx rfl (hb hby at_102) rfl rfl k)
  show Gl _ _ _ _ (T128.setTop (mkF m 103 #[.val (.int u0), .val (.int u1), .val (.int u2), .unset, .unset, .unset, .unset, .unset, .unset] [(.ref b112), (.ref b112)]))
  refine Gl.go ?_ (fun t k => XS.bipush X128.here hx rfl (hb hby at_103) k)
  show Gl _ _ _ _ (T128.setTop (mkF m 105 #[.val (.int u0), .val (.int u1), .val (.int u2), .unset, .unset, .unset, .unset, .unset, .unset] [(.int (16 : Int32)), (.ref b112), (.ref b112)]))
  refine Gl.go ?_ (fun t k => XS.sipush X128.here hx rfl (hb hby at_105) k)
  show Gl _ _ _ _ (T128.setTop (mkF m 108 #[.val (.int u0), .val (.int u1), .val (.int u2), .unset, .unset, .unset, .unset, .unset, .unset] [(.int (895 : Int32)), (.int (16 : Int32)), (.ref b112), (.ref b112)]))
  obtain ⟨cl129, Ar129, q129, S129, N129, Hh129, G129⟩ := V_b112
  obtain ⟨T129, h129, X129, e129, W129, st129⟩ := stI X128 hx hZ e128 Ar129 (j := (16 : Int32)) (inb_of S129 ⟨by decide, by decide⟩) (g := (mkF m 108 #[.val (.int u0), .val (.int u1), .val (.int u2), .unset, .unset, .unset, .unset, .unset, .unset] [(.int (895 : Int32)), (.int (16 : Int32)), (.ref b112), (.ref b112)])) rfl rfl (hb hby at_108)
  replace S_R := S_R.wr W129
  replace B_R := B_R.other W129 ne_aR_b112
  replace Z0 := Nat.le_trans Z0 (Keep.of_wr W129).1
  have V_b112 : Arv Z h129 b112 k112 .int (32 : Int32) [(.int (58 : Int32)), (.int (58 : Int32)), (.int (65 : Int32)), (.int (90 : Int32)), (.int (95 : Int32)), (.int (95 : Int32)), (.int (97 : Int32)), (.int (122 : Int32)), (.int (192 : Int32)), (.int (214 : Int32)), (.int (216 : Int32)), (.int (246 : Int32)), (.int (248 : Int32)), (.int (767 : Int32)), (.int (880 : Int32)), (.int (893 : Int32)), (.int (895 : Int32)), (.int (0 : Int32)), (.int (0 : Int32)), (.int (0 : Int32)), (.int (0 : Int32)), (.int (0 : Int32)), (.int (0 : Int32)), (.int (0 : Int32)), (.int (0 : Int32)), (.int (0 : Int32)), (.int (0 : Int32)), (.int (0 : Int32)), (.int (0 : Int32)), (.int (0 : Int32)), (.int (0 : Int32)), (.int (0 : Int32))] (.int (0 : Int32)) := Arv.set Ar129 q129 S129 N129 Hh129 G129 rfl W129 16 rfl (Nat.le_of_ble_eq_true rfl)
  clear Hh129 G129 N129 S129 q129 W129
  clear Ar129
  clear cl129
  replace NF := Fr.snoc X129 NF g_b112
  refine Gl.go ?_ st129
  clear st129 X128 e128
  show Gl _ _ _ _ (T129.setTop (mkF m 109 #[.val (.int u0), .val (.int u1), .val (.int u2), .unset, .unset, .unset, .unset, .unset, .unset] [(.ref b112)]))
  refine Gl.go ?_ (fun t k => XS.dup X129.here hx rfl (hb hby at_109) rfl rfl k)
  show Gl _ _ _ _ (T129.setTop (mkF m 110 #[.val (.int u0), .val (.int u1), .val (.int u2), .unset, .unset, .unset, .unset, .unset, .unset] [(.ref b112), (.ref b112)]))
  refine Gl.go ?_ (fun t k => XS.bipush X129.here hx rfl (hb hby at_110) k)
  show Gl _ _ _ _ (T129.setTop (mkF m 112 #[.val (.int u0), .val (.int u1), .val (.int u2), .unset, .unset, .unset, .unset, .unset, .unset] [(.int (17 : Int32)), (.ref b112), (.ref b112)]))
  refine Gl.go ?_ (fun t k => XS.sipush X129.here hx rfl (hb hby at_112) k)
  show Gl _ _ _ _ (T129.setTop (mkF m 115 #[.val (.int u0), .val (.int u1), .val (.int u2), .unset, .unset, .unset, .unset, .unset, .unset] [(.int (8191 : Int32)), (.int (17 : Int32)), (.ref b112), (.ref b112)]))
  obtain ⟨cl130, Ar130, q130, S130, N130, Hh130, G130⟩ := V_b112
  obtain ⟨T130, h130, X130, e130, W130, st130⟩ := stI X129 hx hZ e129 Ar130 (j := (17 : Int32)) (inb_of S130 ⟨by decide, by decide⟩) (g := (mkF m 115 #[.val (.int u0), .val (.int u1), .val (.int u2), .unset, .unset, .unset, .unset, .unset, .unset] [(.int (8191 : Int32)), (.int (17 : Int32)), (.ref b112), (.ref b112)])) rfl rfl (hb hby at_115)
  replace S_R := S_R.wr W130
  replace B_R := B_R.other W130 ne_aR_b112
  replace Z0 := Nat.le_trans Z0 (Keep.of_wr W130).1
  have V_b112 : Arv Z h130 b112 k112 .int (32 : Int32) [(.int (58 : Int32)), (.int (58 : Int32)), (.int (65 : Int32)), (.int (90 : Int32)), (.int (95 : Int32)), (.int (95 : Int32)), (.int (97 : Int32)), (.int (122 : Int32)), (.int (192 : Int32)), (.int (214 : Int32)), (.int (216 : Int32)), (.int (246 : Int32)), (.int (248 : Int32)), (.int (767 : Int32)), (.int (880 : Int32)), (.int (893 : Int32)), (.int (895 : Int32)), (.int (8191 : Int32)), (.int (0 : Int32)), (.int (0 : Int32)), (.int (0 : Int32)), (.int (0 : Int32)), (.int (0 : Int32)), (.int (0 : Int32)), (.int (0 : Int32)), (.int (0 : Int32)), (.int (0 : Int32)), (.int (0 : Int32)), (.int (0 : Int32)), (.int (0 : Int32)), (.int (0 : Int32)), (.int (0 : Int32))] (.int (0 : Int32)) := Arv.set Ar130 q130 S130 N130 Hh130 G130 rfl W130 17 rfl (Nat.le_of_ble_eq_true rfl)
  clear Hh130 G130 N130 S130 q130 W130
  clear Ar130
  clear cl130
  replace NF := Fr.snoc X130 NF g_b112
  refine Gl.go ?_ st130
  clear st130 X129 e129
  show Gl _ _ _ _ (T130.setTop (mkF m 116 #[.val (.int u0), .val (.int u1), .val (.int u2), .unset, .unset, .unset, .unset, .unset, .unset] [(.ref b112)]))
  refine Gl.go ?_ (fun t k => XS.dup X130.here hx rfl (hb hby at_116) rfl rfl k)
  show Gl _ _ _ _ (T130.setTop (mkF m 117 #[.val (.int u0), .val (.int u1), .val (.int u2), .unset, .unset, .unset, .unset, .unset, .unset] [(.ref b112), (.ref b112)]))
  refine Gl.go ?_ (fun t k => XS.bipush X130.here hx rfl (hb hby at_117) k)
  show Gl _ _ _ _ (T130.setTop (mkF m 119 #[.val (.int u0), .val (.int u1), .val (.int u2), .unset, .unset, .unset, .unset, .unset, .unset] [(.int (18 : Int32)), (.ref b112), (.ref b112)]))
  refine Gl.go ?_ (fun t k => XS.sipush X130.here hx rfl (hb hby at_119) k)
  show Gl _ _ _ _ (T130.setTop (mkF m 122 #[.val (.int u0), .val (.int u1), .val (.int u2), .unset, .unset, .unset, .unset, .unset, .unset] [(.int (8204 : Int32)), (.int (18 : Int32)), (.ref b112), (.ref b112)]))
  obtain ⟨cl131, Ar131, q131, S131, N131, Hh131, G131⟩ := V_b112
  obtain ⟨T131, h131, X131, e131, W131, st131⟩ := stI X130 hx hZ e130 Ar131 (j := (18 : Int32)) (inb_of S131 ⟨by decide, by decide⟩) (g := (mkF m 122 #[.val (.int u0), .val (.int u1), .val (.int u2), .unset, .unset, .unset, .unset, .unset, .unset] [(.int (8204 : Int32)), (.int (18 : Int32)), (.ref b112), (.ref b112)])) rfl rfl (hb hby at_122)
  replace S_R := S_R.wr W131
  replace B_R := B_R.other W131 ne_aR_b112
  replace Z0 := Nat.le_trans Z0 (Keep.of_wr W131).1
  have V_b112 : Arv Z h131 b112 k112 .int (32 : Int32) [(.int (58 : Int32)), (.int (58 : Int32)), (.int (65 : Int32)), (.int (90 : Int32)), (.int (95 : Int32)), (.int (95 : Int32)), (.int (97 : Int32)), (.int (122 : Int32)), (.int (192 : Int32)), (.int (214 : Int32)), (.int (216 : Int32)), (.int (246 : Int32)), (.int (248 : Int32)), (.int (767 : Int32)), (.int (880 : Int32)), (.int (893 : Int32)), (.int (895 : Int32)), (.int (8191 : Int32)), (.int (8204 : Int32)), (.int (0 : Int32)), (.int (0 : Int32)), (.int (0 : Int32)), (.int (0 : Int32)), (.int (0 : Int32)), (.int (0 : Int32)), (.int (0 : Int32)), (.int (0 : Int32)), (.int (0 : Int32)), (.int (0 : Int32)), (.int (0 : Int32)), (.int (0 : Int32)), (.int (0 : Int32))] (.int (0 : Int32)) := Arv.set Ar131 q131 S131 N131 Hh131 G131 rfl W131 18 rfl (Nat.le_of_ble_eq_true rfl)
  clear Hh131 G131 N131 S131 q131 W131
  clear Ar131
  clear cl131
  replace NF := Fr.snoc X131 NF g_b112
  refine Gl.go ?_ st131
  clear st131 X130 e130
  show Gl _ _ _ _ (T131.setTop (mkF m 123 #[.val (.int u0), .val (.int u1), .val (.int u2), .unset, .unset, .unset, .unset, .unset, .unset] [(.ref b112)]))
  refine Gl.go ?_ (fun t k => XS.dup X131.here hx rfl (hb hby at_123) rfl rfl k)
  show Gl _ _ _ _ (T131.setTop (mkF m 124 #[.val (.int u0), .val (.int u1), .val (.int u2), .unset, .unset, .unset, .unset, .unset, .unset] [(.ref b112), (.ref b112)]))
  refine Gl.go ?_ (fun t k => XS.bipush X131.here hx rfl (hb hby at_124) k)
  show Gl _ _ _ _ (T131.setTop (mkF m 126 #[.val (.int u0), .val (.int u1), .val (.int u2), .unset, .unset, .unset, .unset, .unset, .unset] [(.int (19 : Int32)), (.ref b112), (.ref b112)]))
  refine Gl.go ?_ (fun t k => XS.sipush X131.here hx rfl (hb hby at_126) k)
  show Gl _ _ _ _ (T131.setTop (mkF m 129 #[.val (.int u0), .val (.int u1), .val (.int u2), .unset, .unset, .unset, .unset, .unset, .unset] [(.int (8205 : Int32)), (.int (19 : Int32)), (.ref b112), (.ref b112)]))
  obtain ⟨cl132, Ar132, q132, S132, N132, Hh132, G132⟩ := V_b112
  obtain ⟨T132, h132, X132, e132, W132, st132⟩ := stI X131 hx hZ e131 Ar132 (j := (19 : Int32)) (inb_of S132 ⟨by decide, by decide⟩) (g := (mkF m 129 #[.val (.int u0), .val (.int u1), .val (.int u2), .unset, .unset, .unset, .unset, .unset, .unset] [(.int (8205 : Int32)), (.int (19 : Int32)), (.ref b112), (.ref b112)])) rfl rfl (hb hby at_129)
  replace S_R := S_R.wr W132
  replace B_R := B_R.other W132 ne_aR_b112
  replace Z0 := Nat.le_trans Z0 (Keep.of_wr W132).1
  have V_b112 : Arv Z h132 b112 k112 .int (32 : Int32) [(.int (58 : Int32)), (.int (58 : Int32)), (.int (65 : Int32)), (.int (90 : Int32)), (.int (95 : Int32)), (.int (95 : Int32)), (.int (97 : Int32)), (.int (122 : Int32)), (.int (192 : Int32)), (.int (214 : Int32)), (.int (216 : Int32)), (.int (246 : Int32)), (.int (248 : Int32)), (.int (767 : Int32)), (.int (880 : Int32)), (.int (893 : Int32)), (.int (895 : Int32)), (.int (8191 : Int32)), (.int (8204 : Int32)), (.int (8205 : Int32)), (.int (0 : Int32)), (.int (0 : Int32)), (.int (0 : Int32)), (.int (0 : Int32)), (.int (0 : Int32)), (.int (0 : Int32)), (.int (0 : Int32)), (.int (0 : Int32)), (.int (0 : Int32)), (.int (0 : Int32)), (.int (0 : Int32)), (.int (0 : Int32))] (.int (0 : Int32)) := Arv.set Ar132 q132 S132 N132 Hh132 G132 rfl W132 19 rfl (Nat.le_of_ble_eq_true rfl)
  clear Hh132 G132 N132 S132 q132 W132
  clear Ar132
  clear cl132
  replace NF := Fr.snoc X132 NF g_b112
  refine Gl.go ?_ st132
  clear st132 X131 e131
  show Gl _ _ _ _ (T132.setTop (mkF m 130 #[.val (.int u0), .val (.int u1), .val (.int u2), .unset, .unset, .unset, .unset, .unset, .unset] [(.ref b112)]))
  refine Gl.go ?_ (fun t k => XS.dup X132.here hx rfl (hb hby at_130) rfl rfl k)
  show Gl _ _ _ _ (T132.setTop (mkF m 131 #[.val (.int u0), .val (.int u1), .val (.int u2), .unset, .unset, .unset, .unset, .unset, .unset] [(.ref b112), (.ref b112)]))
  refine Gl.go ?_ (fun t k => XS.bipush X132.here hx rfl (hb hby at_131) k)
  show Gl _ _ _ _ (T132.setTop (mkF m 133 #[.val (.int u0), .val (.int u1), .val (.int u2), .unset, .unset, .unset, .unset, .unset, .unset] [(.int (20 : Int32)), (.ref b112), (.ref b112)]))
  refine Gl.go ?_ (fun t k => XS.sipush X132.here hx rfl (hb hby at_133) k)
  show Gl _ _ _ _ (T132.setTop (mkF m 136 #[.val (.int u0), .val (.int u1), .val (.int u2), .unset, .unset, .unset, .unset, .unset, .unset] [(.int (8304 : Int32)), (.int (20 : Int32)), (.ref b112), (.ref b112)]))
  obtain ⟨cl133, Ar133, q133, S133, N133, Hh133, G133⟩ := V_b112
  obtain ⟨T133, h133, X133, e133, W133, st133⟩ := stI X132 hx hZ e132 Ar133 (j := (20 : Int32)) (inb_of S133 ⟨by decide, by decide⟩) (g := (mkF m 136 #[.val (.int u0), .val (.int u1), .val (.int u2), .unset, .unset, .unset, .unset, .unset, .unset] [(.int (8304 : Int32)), (.int (20 : Int32)), (.ref b112), (.ref b112)])) rfl rfl (hb hby at_136)
  replace S_R := S_R.wr W133
  replace B_R := B_R.other W133 ne_aR_b112
  replace Z0 := Nat.le_trans Z0 (Keep.of_wr W133).1
  have V_b112 : Arv Z h133 b112 k112 .int (32 : Int32) [(.int (58 : Int32)), (.int (58 : Int32)), (.int (65 : Int32)), (.int (90 : Int32)), (.int (95 : Int32)), (.int (95 : Int32)), (.int (97 : Int32)), (.int (122 : Int32)), (.int (192 : Int32)), (.int (214 : Int32)), (.int (216 : Int32)), (.int (246 : Int32)), (.int (248 : Int32)), (.int (767 : Int32)), (.int (880 : Int32)), (.int (893 : Int32)), (.int (895 : Int32)), (.int (8191 : Int32)), (.int (8204 : Int32)), (.int (8205 : Int32)), (.int (8304 : Int32)), (.int (0 : Int32)), (.int (0 : Int32)), (.int (0 : Int32)), (.int (0 : Int32)), (.int (0 : Int32)), (.int (0 : Int32)), (.int (0 : Int32)), (.int (0 : Int32)), (.int (0 : Int32)), (.int (0 : Int32)), (.int (0 : Int32))] (.int (0 : Int32)) := Arv.set Ar133 q133 S133 N133 Hh133 G133 rfl W133 20 rfl (Nat.le_of_ble_eq_true rfl)
  clear Hh133 G133 N133 S133 q133 W133
  clear Ar133
  clear cl133
  replace NF := Fr.snoc X133 NF g_b112
  refine Gl.go ?_ st133
  clear st133 X132 e132
  show Gl _ _ _ _ (T133.setTop (mkF m 137 #[.val (.int u0), .val (.int u1), .val (.int u2), .unset, .unset, .unset, .unset, .unset, .unset] [(.ref b112)]))
  refine Gl.go ?_ (fun t k => XS.dup X133.here hx rfl (hb hby at_137) rfl rfl k)
  show Gl _ _ _ _ (T133.setTop (mkF m 138 #[.val (.int u0), .val (.int u1), .val (.int u2), .unset, .unset, .unset, .unset, .unset, .unset] [(.ref b112), (.ref b112)]))
  refine Gl.go ?_ (fun t k => XS.bipush X133.here hx rfl (hb hby at_138) k)
  show Gl _ _ _ _ (T133.setTop (mkF m 140 #[.val (.int u0), .val (.int u1), .val (.int u2), .unset, .unset, .unset, .unset, .unset, .unset] [(.int (21 : Int32)), (.ref b112), (.ref b112)]))
  refine Gl.go ?_ (fun t k => XS.sipush X133.here hx rfl (hb hby at_140) k)
  show Gl _ _ _ _ (T133.setTop (mkF m 143 #[.val (.int u0), .val (.int u1), .val (.int u2), .unset, .unset, .unset, .unset, .unset, .unset] [(.int (8591 : Int32)), (.int (21 : Int32)), (.ref b112), (.ref b112)]))
  obtain ⟨cl134, Ar134, q134, S134, N134, Hh134, G134⟩ := V_b112
  obtain ⟨T134, h134, X134, e134, W134, st134⟩ := stI X133 hx hZ e133 Ar134 (j := (21 : Int32)) (inb_of S134 ⟨by decide, by decide⟩) (g := (mkF m 143 #[.val (.int u0), .val (.int u1), .val (.int u2), .unset, .unset, .unset, .unset, .unset, .unset] [(.int (8591 : Int32)), (.int (21 : Int32)), (.ref b112), (.ref b112)])) rfl rfl (hb hby at_143)
  replace S_R := S_R.wr W134
  replace B_R := B_R.other W134 ne_aR_b112
  replace Z0 := Nat.le_trans Z0 (Keep.of_wr W134).1
  have V_b112 : Arv Z h134 b112 k112 .int (32 : Int32) [(.int (58 : Int32)), (.int (58 : Int32)), (.int (65 : Int32)), (.int (90 : Int32)), (.int (95 : Int32)), (.int (95 : Int32)), (.int (97 : Int32)), (.int (122 : Int32)), (.int (192 : Int32)), (.int (214 : Int32)), (.int (216 : Int32)), (.int (246 : Int32)), (.int (248 : Int32)), (.int (767 : Int32)), (.int (880 : Int32)), (.int (893 : Int32)), (.int (895 : Int32)), (.int (8191 : Int32)), (.int (8204 : Int32)), (.int (8205 : Int32)), (.int (8304 : Int32)), (.int (8591 : Int32)), (.int (0 : Int32)), (.int (0 : Int32)), (.int (0 : Int32)), (.int (0 : Int32)), (.int (0 : Int32)), (.int (0 : Int32)), (.int (0 : Int32)), (.int (0 : Int32)), (.int (0 : Int32)), (.int (0 : Int32))] (.int (0 : Int32)) := Arv.set Ar134 q134 S134 N134 Hh134 G134 rfl W134 21 rfl (Nat.le_of_ble_eq_true rfl)
  clear Hh134 G134 N134 S134 q134 W134
  clear Ar134
  clear cl134
  replace NF := Fr.snoc X134 NF g_b112
  refine Gl.go ?_ st134
  clear st134 X133 e133
  show Gl _ _ _ _ (T134.setTop (mkF m 144 #[.val (.int u0), .val (.int u1), .val (.int u2), .unset, .unset, .unset, .unset, .unset, .unset] [(.ref b112)]))
  refine Gl.go ?_ (fun t k => XS.dup X134.here hx rfl (hb hby at_144) rfl rfl k)
  show Gl _ _ _ _ (T134.setTop (mkF m 145 #[.val (.int u0), .val (.int u1), .val (.int u2), .unset, .unset, .unset, .unset, .unset, .unset] [(.ref b112), (.ref b112)]))
  refine Gl.go ?_ (fun t k => XS.bipush X134.here hx rfl (hb hby at_145) k)
  show Gl _ _ _ _ (T134.setTop (mkF m 147 #[.val (.int u0), .val (.int u1), .val (.int u2), .unset, .unset, .unset, .unset, .unset, .unset] [(.int (22 : Int32)), (.ref b112), (.ref b112)]))
  refine Gl.go ?_ (fun t k => XS.sipush X134.here hx rfl (hb hby at_147) k)
  show Gl _ _ _ _ (T134.setTop (mkF m 150 #[.val (.int u0), .val (.int u1), .val (.int u2), .unset, .unset, .unset, .unset, .unset, .unset] [(.int (11264 : Int32)), (.int (22 : Int32)), (.ref b112), (.ref b112)]))
  obtain ⟨cl135, Ar135, q135, S135, N135, Hh135, G135⟩ := V_b112
  obtain ⟨T135, h135, X135, e135, W135, st135⟩ := stI X134 hx hZ e134 Ar135 (j := (22 : Int32)) (inb_of S135 ⟨by decide, by decide⟩) (g := (mkF m 150 #[.val (.int u0), .val (.int u1), .val (.int u2), .unset, .unset, .unset, .unset, .unset, .unset] [(.int (11264 : Int32)), (.int (22 : Int32)), (.ref b112), (.ref b112)])) rfl rfl (hb hby at_150)
  replace S_R := S_R.wr W135
  replace B_R := B_R.other W135 ne_aR_b112
  replace Z0 := Nat.le_trans Z0 (Keep.of_wr W135).1
  have V_b112 : Arv Z h135 b112 k112 .int (32 : Int32) [(.int (58 : Int32)), (.int (58 : Int32)), (.int (65 : Int32)), (.int (90 : Int32)), (.int (95 : Int32)), (.int (95 : Int32)), (.int (97 : Int32)), (.int (122 : Int32)), (.int (192 : Int32)), (.int (214 : Int32)), (.int (216 : Int32)), (.int (246 : Int32)), (.int (248 : Int32)), (.int (767 : Int32)), (.int (880 : Int32)), (.int (893 : Int32)), (.int (895 : Int32)), (.int (8191 : Int32)), (.int (8204 : Int32)), (.int (8205 : Int32)), (.int (8304 : Int32)), (.int (8591 : Int32)), (.int (11264 : Int32)), (.int (0 : Int32)), (.int (0 : Int32)), (.int (0 : Int32)), (.int (0 : Int32)), (.int (0 : Int32)), (.int (0 : Int32)), (.int (0 : Int32)), (.int (0 : Int32)), (.int (0 : Int32))] (.int (0 : Int32)) := Arv.set Ar135 q135 S135 N135 Hh135 G135 rfl W135 22 rfl (Nat.le_of_ble_eq_true rfl)
  clear Hh135 G135 N135 S135 q135 W135
  clear Ar135
  clear cl135
  replace NF := Fr.snoc X135 NF g_b112
  refine Gl.go ?_ st135
  clear st135 X134 e134
  show Gl _ _ _ _ (T135.setTop (mkF m 151 #[.val (.int u0), .val (.int u1), .val (.int u2), .unset, .unset, .unset, .unset, .unset, .unset] [(.ref b112)]))
  refine Gl.go ?_ (fun t k => XS.dup X135.here hx rfl (hb hby at_151) rfl rfl k)
  show Gl _ _ _ _ (T135.setTop (mkF m 152 #[.val (.int u0), .val (.int u1), .val (.int u2), .unset, .unset, .unset, .unset, .unset, .unset] [(.ref b112), (.ref b112)]))
  refine Gl.go ?_ (fun t k => XS.bipush X135.here hx rfl (hb hby at_152) k)
  show Gl _ _ _ _ (T135.setTop (mkF m 154 #[.val (.int u0), .val (.int u1), .val (.int u2), .unset, .unset, .unset, .unset, .unset, .unset] [(.int (23 : Int32)), (.ref b112), (.ref b112)]))
  refine Gl.go ?_ (fun t k => XS.sipush X135.here hx rfl (hb hby at_154) k)
  show Gl _ _ _ _ (T135.setTop (mkF m 157 #[.val (.int u0), .val (.int u1), .val (.int u2), .unset, .unset, .unset, .unset, .unset, .unset] [(.int (12271 : Int32)), (.int (23 : Int32)), (.ref b112), (.ref b112)]))
  obtain ⟨cl136, Ar136, q136, S136, N136, Hh136, G136⟩ := V_b112
  obtain ⟨T136, h136, X136, e136, W136, st136⟩ := stI X135 hx hZ e135 Ar136 (j := (23 : Int32)) (inb_of S136 ⟨by decide, by decide⟩) (g := (mkF m 157 #[.val (.int u0), .val (.int u1), .val (.int u2), .unset, .unset, .unset, .unset, .unset, .unset] [(.int (12271 : Int32)), (.int (23 : Int32)), (.ref b112), (.ref b112)])) rfl rfl (hb hby at_157)
  replace S_R := S_R.wr W136
  replace B_R := B_R.other W136 ne_aR_b112
  replace Z0 := Nat.le_trans Z0 (Keep.of_wr W136).1
  have V_b112 : Arv Z h136 b112 k112 .int (32 : Int32) [(.int (58 : Int32)), (.int (58 : Int32)), (.int (65 : Int32)), (.int (90 : Int32)), (.int (95 : Int32)), (.int (95 : Int32)), (.int (97 : Int32)), (.int (122 : Int32)), (.int (192 : Int32)), (.int (214 : Int32)), (.int (216 : Int32)), (.int (246 : Int32)), (.int (248 : Int32)), (.int (767 : Int32)), (.int (880 : Int32)), (.int (893 : Int32)), (.int (895 : Int32)), (.int (8191 : Int32)), (.int (8204 : Int32)), (.int (8205 : Int32)), (.int (8304 : Int32)), (.int (8591 : Int32)), (.int (11264 : Int32)), (.int (12271 : Int32)), (.int (0 : Int32)), (.int (0 : Int32)), (.int (0 : Int32)), (.int (0 : Int32)), (.int (0 : Int32)), (.int (0 : Int32)), (.int (0 : Int32)), (.int (0 : Int32))] (.int (0 : Int32)) := Arv.set Ar136 q136 S136 N136 Hh136 G136 rfl W136 23 rfl (Nat.le_of_ble_eq_true rfl)
  clear Hh136 G136 N136 S136 q136 W136
  clear Ar136
  clear cl136
  replace NF := Fr.snoc X136 NF g_b112
  refine Gl.go ?_ st136
  clear st136 X135 e135
  show Gl _ _ _ _ (T136.setTop (mkF m 158 #[.val (.int u0), .val (.int u1), .val (.int u2), .unset, .unset, .unset, .unset, .unset, .unset] [(.ref b112)]))
  refine Gl.go ?_ (fun t k => XS.dup X136.here hx rfl (hb hby at_158) rfl rfl k)
  show Gl _ _ _ _ (T136.setTop (mkF m 159 #[.val (.int u0), .val (.int u1), .val (.int u2), .unset, .unset, .unset, .unset, .unset, .unset] [(.ref b112), (.ref b112)]))
  refine Gl.go ?_ (fun t k => XS.bipush X136.here hx rfl (hb hby at_159) k)
  show Gl _ _ _ _ (T136.setTop (mkF m 161 #[.val (.int u0), .val (.int u1), .val (.int u2), .unset, .unset, .unset, .unset, .unset, .unset] [(.int (24 : Int32)), (.ref b112), (.ref b112)]))
  refine Gl.go ?_ (fun t k => XS.sipush X136.here hx rfl (hb hby at_161) k)
  show Gl _ _ _ _ (T136.setTop (mkF m 164 #[.val (.int u0), .val (.int u1), .val (.int u2), .unset, .unset, .unset, .unset, .unset, .unset] [(.int (12289 : Int32)), (.int (24 : Int32)), (.ref b112), (.ref b112)]))
  obtain ⟨cl137, Ar137, q137, S137, N137, Hh137, G137⟩ := V_b112
  obtain ⟨T137, h137, X137, e137, W137, st137⟩ := stI X136 hx hZ e136 Ar137 (j := (24 : Int32)) (inb_of S137 ⟨by decide, by decide⟩) (g := (mkF m 164 #[.val (.int u0), .val (.int u1), .val (.int u2), .unset, .unset, .unset, .unset, .unset, .unset] [(.int (12289 : Int32)), (.int (24 : Int32)), (.ref b112), (.ref b112)])) rfl rfl (hb hby at_164)
  replace S_R := S_R.wr W137
  replace B_R := B_R.other W137 ne_aR_b112
  replace Z0 := Nat.le_trans Z0 (Keep.of_wr W137).1
  have V_b112 : Arv Z h137 b112 k112 .int (32 : Int32) [(.int (58 : Int32)), (.int (58 : Int32)), (.int (65 : Int32)), (.int (90 : Int32)), (.int (95 : Int32)), (.int (95 : Int32)), (.int (97 : Int32)), (.int (122 : Int32)), (.int (192 : Int32)), (.int (214 : Int32)), (.int (216 : Int32)), (.int (246 : Int32)), (.int (248 : Int32)), (.int (767 : Int32)), (.int (880 : Int32)), (.int (893 : Int32)), (.int (895 : Int32)), (.int (8191 : Int32)), (.int (8204 : Int32)), (.int (8205 : Int32)), (.int (8304 : Int32)), (.int (8591 : Int32)), (.int (11264 : Int32)), (.int (12271 : Int32)), (.int (12289 : Int32)), (.int (0 : Int32)), (.int (0 : Int32)), (.int (0 : Int32)), (.int (0 : Int32)), (.int (0 : Int32)), (.int (0 : Int32)), (.int (0 : Int32))] (.int (0 : Int32)) := Arv.set Ar137 q137 S137 N137 Hh137 G137 rfl W137 24 rfl (Nat.le_of_ble_eq_true rfl)
  clear Hh137 G137 N137 S137 q137 W137
  clear Ar137
  clear cl137
  replace NF := Fr.snoc X137 NF g_b112
  refine Gl.go ?_ st137
  clear st137 X136 e136
  show Gl _ _ _ _ (T137.setTop (mkF m 165 #[.val (.int u0), .val (.int u1), .val (.int u2), .unset, .unset, .unset, .unset, .unset, .unset] [(.ref b112)]))
  refine Gl.go ?_ (fun t k => XS.dup X137.here hx rfl (hb hby at_165) rfl rfl k)
  show Gl _ _ _ _ (T137.setTop (mkF m 166 #[.val (.int u0), .val (.int u1), .val (.int u2), .unset, .unset, .unset, .unset, .unset, .unset] [(.ref b112), (.ref b112)]))
  refine Gl.go ?_ (fun t k => XS.bipush X137.here hx rfl (hb hby at_166) k)
  show Gl _ _ _ _ (T137.setTop (mkF m 168 #[.val (.int u0), .val (.int u1), .val (.int u2), .unset, .unset, .unset, .unset, .unset, .unset] [(.int (25 : Int32)), (.ref b112), (.ref b112)]))
  refine Gl.go ?_ (X137.ldcInt hx hown (mvT hZ (hw _ (List.mem_of_getElem? (i := 1) rfl))) (g := (mkF m 168 #[.val (.int u0), .val (.int u1), .val (.int u2), .unset, .unset, .unset, .unset, .unset, .unset] [(.int (25 : Int32)), (.ref b112), (.ref b112)])) rfl (hb hby at_168))
  show Gl _ _ _ _ (T137.setTop (mkF m 170 #[.val (.int u0), .val (.int u1), .val (.int u2), .unset, .unset, .unset, .unset, .unset, .unset] [(.int (55295 : Int32)), (.int (25 : Int32)), (.ref b112), (.ref b112)]))
  obtain ⟨cl138, Ar138, q138, S138, N138, Hh138, G138⟩ := V_b112
  obtain ⟨T138, h138, X138, e138, W138, st138⟩ := stI X137 hx hZ e137 Ar138 (j := (25 : Int32)) (inb_of S138 ⟨by decide, by decide⟩) (g := (mkF m 170 #[.val (.int u0), .val (.int u1), .val (.int u2), .unset, .unset, .unset, .unset, .unset, .unset] [(.int (55295 : Int32)), (.int (25 : Int32)), (.ref b112), (.ref b112)])) rfl rfl (hb hby at_170)
  replace S_R := S_R.wr W138
  replace B_R := B_R.other W138 ne_aR_b112
  replace Z0 := Nat.le_trans Z0 (Keep.of_wr W138).1
  have V_b112 : Arv Z h138 b112 k112 .int (32 : Int32) [(.int (58 : Int32)), (.int (58 : Int32)), (.int (65 : Int32)), (.int (90 : Int32)), (.int (95 : Int32)), (.int (95 : Int32)), (.int (97 : Int32)), (.int (122 : Int32)), (.int (192 : Int32)), (.int (214 : Int32)), (.int (216 : Int32)), (.int (246 : Int32)), (.int (248 : Int32)), (.int (767 : Int32)), (.int (880 : Int32)), (.int (893 : Int32)), (.int (895 : Int32)), (.int (8191 : Int32)), (.int (8204 : Int32)), (.int (8205 : Int32)), (.int (8304 : Int32)), (.int (8591 : Int32)), (.int (11264 : Int32)), (.int (12271 : Int32)), (.int (12289 : Int32)), (.int (55295 : Int32)), (.int (0 : Int32)), (.int (0 : Int32)), (.int (0 : Int32)), (.int (0 : Int32)), (.int (0 : Int32)), (.int (0 : Int32))] (.int (0 : Int32)) := Arv.set Ar138 q138 S138 N138 Hh138 G138 rfl W138 25 rfl (Nat.le_of_ble_eq_true rfl)
  clear Hh138 G138 N138 S138 q138 W138
  clear Ar138
  clear cl138
  replace NF := Fr.snoc X138 NF g_b112
  refine Gl.go ?_ st138
  clear st138 X137 e137
  show Gl _ _ _ _ (T138.setTop (mkF m 171 #[.val (.int u0), .val (.int u1), .val (.int u2), .unset, .unset, .unset, .unset, .unset, .unset] [(.ref b112)]))
  refine Gl.go ?_ (fun t k => XS.dup X138.here hx rfl (hb hby at_171) rfl rfl k)
  show Gl _ _ _ _ (T138.setTop (mkF m 172 #[.val (.int u0), .val (.int u1), .val (.int u2), .unset, .unset, .unset, .unset, .unset, .unset] [(.ref b112), (.ref b112)]))
  refine Gl.go ?_ (fun t k => XS.bipush X138.here hx rfl (hb hby at_172) k)
  show Gl _ _ _ _ (T138.setTop (mkF m 174 #[.val (.int u0), .val (.int u1), .val (.int u2), .unset, .unset, .unset, .unset, .unset, .unset] [(.int (26 : Int32)), (.ref b112), (.ref b112)]))
  refine Gl.go ?_ (X138.ldcInt hx hown (mvT hZ (hw _ (List.mem_of_getElem? (i := 2) rfl))) (g := (mkF m 174 #[.val (.int u0), .val (.int u1), .val (.int u2), .unset, .unset, .unset, .unset, .unset, .unset] [(.int (26 : Int32)), (.ref b112), (.ref b112)])) rfl (hb hby at_174))
  show Gl _ _ _ _ (T138.setTop (mkF m 176 #[.val (.int u0), .val (.int u1), .val (.int u2), .unset, .unset, .unset, .unset, .unset, .unset] [(.int (63744 : Int32)), (.int (26 : Int32)), (.ref b112), (.ref b112)]))
  obtain ⟨cl139, Ar139, q139, S139, N139, Hh139, G139⟩ := V_b112
  obtain ⟨T139, h139, X139, e139, W139, st139⟩ := stI X138 hx hZ e138 Ar139 (j := (26 : Int32)) (inb_of S139 ⟨by decide, by decide⟩) (g := (mkF m 176 #[.val (.int u0), .val (.int u1), .val (.int u2), .unset, .unset, .unset, .unset, .unset, .unset] [(.int (63744 : Int32)), (.int (26 : Int32)), (.ref b112), (.ref b112)])) rfl rfl (hb hby at_176)
  replace S_R := S_R.wr W139
  replace B_R := B_R.other W139 ne_aR_b112
  replace Z0 := Nat.le_trans Z0 (Keep.of_wr W139).1
  have V_b112 : Arv Z h139 b112 k112 .int (32 : Int32) [(.int (58 : Int32)), (.int (58 : Int32)), (.int (65 : Int32)), (.int (90 : Int32)), (.int (95 : Int32)), (.int (95 : Int32)), (.int (97 : Int32)), (.int (122 : Int32)), (.int (192 : Int32)), (.int (214 : Int32)), (.int (216 : Int32)), (.int (246 : Int32)), (.int (248 : Int32)), (.int (767 : Int32)), (.int (880 : Int32)), (.int (893 : Int32)), (.int (895 : Int32)), (.int (8191 : Int32)), (.int (8204 : Int32)), (.int (8205 : Int32)), (.int (8304 : Int32)), (.int (8591 : Int32)), (.int (11264 : Int32)), (.int (12271 : Int32)), (.int (12289 : Int32)), (.int (55295 : Int32)), (.int (63744 : Int32)), (.int (0 : Int32)), (.int (0 : Int32)), (.int (0 : Int32)), (.int (0 : Int32)), (.int (0 : Int32))] (.int (0 : Int32)) := Arv.set Ar139 q139 S139 N139 Hh139 G139 rfl W139 26 rfl (Nat.le_of_ble_eq_true rfl)
  clear Hh139 G139 N139 S139 q139 W139
  clear Ar139
  clear cl139
  replace NF := Fr.snoc X139 NF g_b112
  refine Gl.go ?_ st139
  clear st139 X138 e138
  show Gl _ _ _ _ (T139.setTop (mkF m 177 #[.val (.int u0), .val (.int u1), .val (.int u2), .unset, .unset, .unset, .unset, .unset, .unset] [(.ref b112)]))
  refine Gl.go ?_ (fun t k => XS.dup X139.here hx rfl (hb hby at_177) rfl rfl k)
  show Gl _ _ _ _ (T139.setTop (mkF m 178 #[.val (.int u0), .val (.int u1), .val (.int u2), .unset, .unset, .unset, .unset, .unset, .unset] [(.ref b112), (.ref b112)]))
  refine Gl.go ?_ (fun t k => XS.bipush X139.here hx rfl (hb hby at_178) k)
  show Gl _ _ _ _ (T139.setTop (mkF m 180 #[.val (.int u0), .val (.int u1), .val (.int u2), .unset, .unset, .unset, .unset, .unset, .unset] [(.int (27 : Int32)), (.ref b112), (.ref b112)]))
  refine Gl.go ?_ (X139.ldcInt hx hown (mvT hZ (hw _ (List.mem_of_getElem? (i := 3) rfl))) (g := (mkF m 180 #[.val (.int u0), .val (.int u1), .val (.int u2), .unset, .unset, .unset, .unset, .unset, .unset] [(.int (27 : Int32)), (.ref b112), (.ref b112)])) rfl (hb hby at_180))
  show Gl _ _ _ _ (T139.setTop (mkF m 182 #[.val (.int u0), .val (.int u1), .val (.int u2), .unset, .unset, .unset, .unset, .unset, .unset] [(.int (64975 : Int32)), (.int (27 : Int32)), (.ref b112), (.ref b112)]))
  obtain ⟨cl140, Ar140, q140, S140, N140, Hh140, G140⟩ := V_b112
  obtain ⟨T140, h140, X140, e140, W140, st140⟩ := stI X139 hx hZ e139 Ar140 (j := (27 : Int32)) (inb_of S140 ⟨by decide, by decide⟩) (g := (mkF m 182 #[.val (.int u0), .val (.int u1), .val (.int u2), .unset, .unset, .unset, .unset, .unset, .unset] [(.int (64975 : Int32)), (.int (27 : Int32)), (.ref b112), (.ref b112)])) rfl rfl (hb hby at_182)
  replace S_R := S_R.wr W140
  replace B_R := B_R.other W140 ne_aR_b112
  replace Z0 := Nat.le_trans Z0 (Keep.of_wr W140).1
  have V_b112 : Arv Z h140 b112 k112 .int (32 : Int32) [(.int (58 : Int32)), (.int (58 : Int32)), (.int (65 : Int32)), (.int (90 : Int32)), (.int (95 : Int32)), (.int (95 : Int32)), (.int (97 : Int32)), (.int (122 : Int32)), (.int (192 : Int32)), (.int (214 : Int32)), (.int (216 : Int32)), (.int (246 : Int32)), (.int (248 : Int32)), (.int (767 : Int32)), (.int (880 : Int32)), (.int (893 : Int32)), (.int (895 : Int32)), (.int (8191 : Int32)), (.int (8204 : Int32)), (.int (8205 : Int32)), (.int (8304 : Int32)), (.int (8591 : Int32)), (.int (11264 : Int32)), (.int (12271 : Int32)), (.int (12289 : Int32)), (.int (55295 : Int32)), (.int (63744 : Int32)), (.int (64975 : Int32)), (.int (0 : Int32)), (.int (0 : Int32)), (.int (0 : Int32)), (.int (0 : Int32))] (.int (0 : Int32)) := Arv.set Ar140 q140 S140 N140 Hh140 G140 rfl W140 27 rfl (Nat.le_of_ble_eq_true rfl)
  clear Hh140 G140 N140 S140 q140 W140
  clear Ar140
  clear cl140
  replace NF := Fr.snoc X140 NF g_b112
  refine Gl.go ?_ st140
  clear st140 X139 e139
  show Gl _ _ _ _ (T140.setTop (mkF m 183 #[.val (.int u0), .val (.int u1), .val (.int u2), .unset, .unset, .unset, .unset, .unset, .unset] [(.ref b112)]))
  refine Gl.go ?_ (fun t k => XS.dup X140.here hx rfl (hb hby at_183) rfl rfl k)
  show Gl _ _ _ _ (T140.setTop (mkF m 184 #[.val (.int u0), .val (.int u1), .val (.int u2), .unset, .unset, .unset, .unset, .unset, .unset] [(.ref b112), (.ref b112)]))
  refine Gl.go ?_ (fun t k => XS.bipush X140.here hx rfl (hb hby at_184) k)
  show Gl _ _ _ _ (T140.setTop (mkF m 186 #[.val (.int u0), .val (.int u1), .val (.int u2), .unset, .unset, .unset, .unset, .unset, .unset] [(.int (28 : Int32)), (.ref b112), (.ref b112)]))
  refine Gl.go ?_ (X140.ldcInt hx hown (mvT hZ (hw _ (List.mem_of_getElem? (i := 4) rfl))) (g := (mkF m 186 #[.val (.int u0), .val (.int u1), .val (.int u2), .unset, .unset, .unset, .unset, .unset, .unset] [(.int (28 : Int32)), (.ref b112), (.ref b112)])) rfl (hb hby at_186))
  show Gl _ _ _ _ (T140.setTop (mkF m 188 #[.val (.int u0), .val (.int u1), .val (.int u2), .unset, .unset, .unset, .unset, .unset, .unset] [(.int (65008 : Int32)), (.int (28 : Int32)), (.ref b112), (.ref b112)]))
  obtain ⟨cl141, Ar141, q141, S141, N141, Hh141, G141⟩ := V_b112
  obtain ⟨T141, h141, X141, e141, W141, st141⟩ := stI X140 hx hZ e140 Ar141 (j := (28 : Int32)) (inb_of S141 ⟨by decide, by decide⟩) (g := (mkF m 188 #[.val (.int u0), .val (.int u1), .val (.int u2), .unset, .unset, .unset, .unset, .unset, .unset] [(.int (65008 : Int32)), (.int (28 : Int32)), (.ref b112), (.ref b112)])) rfl rfl (hb hby at_188)
  replace S_R := S_R.wr W141
  replace B_R := B_R.other W141 ne_aR_b112
  replace Z0 := Nat.le_trans Z0 (Keep.of_wr W141).1
  have V_b112 : Arv Z h141 b112 k112 .int (32 : Int32) [(.int (58 : Int32)), (.int (58 : Int32)), (.int (65 : Int32)), (.int (90 : Int32)), (.int (95 : Int32)), (.int (95 : Int32)), (.int (97 : Int32)), (.int (122 : Int32)), (.int (192 : Int32)), (.int (214 : Int32)), (.int (216 : Int32)), (.int (246 : Int32)), (.int (248 : Int32)), (.int (767 : Int32)), (.int (880 : Int32)), (.int (893 : Int32)), (.int (895 : Int32)), (.int (8191 : Int32)), (.int (8204 : Int32)), (.int (8205 : Int32)), (.int (8304 : Int32)), (.int (8591 : Int32)), (.int (11264 : Int32)), (.int (12271 : Int32)), (.int (12289 : Int32)), (.int (55295 : Int32)), (.int (63744 : Int32)), (.int (64975 : Int32)), (.int (65008 : Int32)), (.int (0 : Int32)), (.int (0 : Int32)), (.int (0 : Int32))] (.int (0 : Int32)) := Arv.set Ar141 q141 S141 N141 Hh141 G141 rfl W141 28 rfl (Nat.le_of_ble_eq_true rfl)
  clear Hh141 G141 N141 S141 q141 W141
  clear Ar141
  clear cl141
  replace NF := Fr.snoc X141 NF g_b112
  refine Gl.go ?_ st141
  clear st141 X140 e140
  show Gl _ _ _ _ (T141.setTop (mkF m 189 #[.val (.int u0), .val (.int u1), .val (.int u2), .unset, .unset, .unset, .unset, .unset, .unset] [(.ref b112)]))
  refine Gl.go ?_ (fun t k => XS.dup X141.here hx rfl (hb hby at_189) rfl rfl k)
  show Gl _ _ _ _ (T141.setTop (mkF m 190 #[.val (.int u0), .val (.int u1), .val (.int u2), .unset, .unset, .unset, .unset, .unset, .unset] [(.ref b112), (.ref b112)]))
  refine Gl.go ?_ (fun t k => XS.bipush X141.here hx rfl (hb hby at_190) k)
  show Gl _ _ _ _ (T141.setTop (mkF m 192 #[.val (.int u0), .val (.int u1), .val (.int u2), .unset, .unset, .unset, .unset, .unset, .unset] [(.int (29 : Int32)), (.ref b112), (.ref b112)]))
  refine Gl.go ?_ (X141.ldcInt hx hown (mvT hZ (hw _ (List.mem_of_getElem? (i := 5) rfl))) (g := (mkF m 192 #[.val (.int u0), .val (.int u1), .val (.int u2), .unset, .unset, .unset, .unset, .unset, .unset] [(.int (29 : Int32)), (.ref b112), (.ref b112)])) rfl (hb hby at_192))
  show Gl _ _ _ _ (T141.setTop (mkF m 194 #[.val (.int u0), .val (.int u1), .val (.int u2), .unset, .unset, .unset, .unset, .unset, .unset] [(.int (65533 : Int32)), (.int (29 : Int32)), (.ref b112), (.ref b112)]))
  obtain ⟨cl142, Ar142, q142, S142, N142, Hh142, G142⟩ := V_b112
  obtain ⟨T142, h142, X142, e142, W142, st142⟩ := stI X141 hx hZ e141 Ar142 (j := (29 : Int32)) (inb_of S142 ⟨by decide, by decide⟩) (g := (mkF m 194 #[.val (.int u0), .val (.int u1), .val (.int u2), .unset, .unset, .unset, .unset, .unset, .unset] [(.int (65533 : Int32)), (.int (29 : Int32)), (.ref b112), (.ref b112)])) rfl rfl (hb hby at_194)
  replace S_R := S_R.wr W142
  replace B_R := B_R.other W142 ne_aR_b112
  replace Z0 := Nat.le_trans Z0 (Keep.of_wr W142).1
  have V_b112 : Arv Z h142 b112 k112 .int (32 : Int32) [(.int (58 : Int32)), (.int (58 : Int32)), (.int (65 : Int32)), (.int (90 : Int32)), (.int (95 : Int32)), (.int (95 : Int32)), (.int (97 : Int32)), (.int (122 : Int32)), (.int (192 : Int32)), (.int (214 : Int32)), (.int (216 : Int32)), (.int (246 : Int32)), (.int (248 : Int32)), (.int (767 : Int32)), (.int (880 : Int32)), (.int (893 : Int32)), (.int (895 : Int32)), (.int (8191 : Int32)), (.int (8204 : Int32)), (.int (8205 : Int32)), (.int (8304 : Int32)), (.int (8591 : Int32)), (.int (11264 : Int32)), (.int (12271 : Int32)), (.int (12289 : Int32)), (.int (55295 : Int32)), (.int (63744 : Int32)), (.int (64975 : Int32)), (.int (65008 : Int32)), (.int (65533 : Int32)), (.int (0 : Int32)), (.int (0 : Int32))] (.int (0 : Int32)) := Arv.set Ar142 q142 S142 N142 Hh142 G142 rfl W142 29 rfl (Nat.le_of_ble_eq_true rfl)
  clear Hh142 G142 N142 S142 q142 W142
  clear Ar142
  clear cl142
  replace NF := Fr.snoc X142 NF g_b112
  refine Gl.go ?_ st142
  clear st142 X141 e141
  show Gl _ _ _ _ (T142.setTop (mkF m 195 #[.val (.int u0), .val (.int u1), .val (.int u2), .unset, .unset, .unset, .unset, .unset, .unset] [(.ref b112)]))
  refine Gl.go ?_ (fun t k => XS.dup X142.here hx rfl (hb hby at_195) rfl rfl k)
  show Gl _ _ _ _ (T142.setTop (mkF m 196 #[.val (.int u0), .val (.int u1), .val (.int u2), .unset, .unset, .unset, .unset, .unset, .unset] [(.ref b112), (.ref b112)]))
  refine Gl.go ?_ (fun t k => XS.bipush X142.here hx rfl (hb hby at_196) k)
  show Gl _ _ _ _ (T142.setTop (mkF m 198 #[.val (.int u0), .val (.int u1), .val (.int u2), .unset, .unset, .unset, .unset, .unset, .unset] [(.int (30 : Int32)), (.ref b112), (.ref b112)]))
  refine Gl.go ?_ (X142.ldcInt hx hown (mvT hZ (hw _ (List.mem_of_getElem? (i := 6) rfl))) (g := (mkF m 198 #[.val (.int u0), .val (.int u1), .val (.int u2), .unset, .unset, .unset, .unset, .unset, .unset] [(.int (30 : Int32)), (.ref b112), (.ref b112)])) rfl (hb hby at_198))
  show Gl _ _ _ _ (T142.setTop (mkF m 200 #[.val (.int u0), .val (.int u1), .val (.int u2), .unset, .unset, .unset, .unset, .unset, .unset] [(.int (65536 : Int32)), (.int (30 : Int32)), (.ref b112), (.ref b112)]))
  obtain ⟨cl143, Ar143, q143, S143, N143, Hh143, G143⟩ := V_b112
  obtain ⟨T143, h143, X143, e143, W143, st143⟩ := stI X142 hx hZ e142 Ar143 (j := (30 : Int32)) (inb_of S143 ⟨by decide, by decide⟩) (g := (mkF m 200 #[.val (.int u0), .val (.int u1), .val (.int u2), .unset, .unset, .unset, .unset, .unset, .unset] [(.int (65536 : Int32)), (.int (30 : Int32)), (.ref b112), (.ref b112)])) rfl rfl (hb hby at_200)
  replace S_R := S_R.wr W143
  replace B_R := B_R.other W143 ne_aR_b112
  replace Z0 := Nat.le_trans Z0 (Keep.of_wr W143).1
  have V_b112 : Arv Z h143 b112 k112 .int (32 : Int32) [(.int (58 : Int32)), (.int (58 : Int32)), (.int (65 : Int32)), (.int (90 : Int32)), (.int (95 : Int32)), (.int (95 : Int32)), (.int (97 : Int32)), (.int (122 : Int32)), (.int (192 : Int32)), (.int (214 : Int32)), (.int (216 : Int32)), (.int (246 : Int32)), (.int (248 : Int32)), (.int (767 : Int32)), (.int (880 : Int32)), (.int (893 : Int32)), (.int (895 : Int32)), (.int (8191 : Int32)), (.int (8204 : Int32)), (.int (8205 : Int32)), (.int (8304 : Int32)), (.int (8591 : Int32)), (.int (11264 : Int32)), (.int (12271 : Int32)), (.int (12289 : Int32)), (.int (55295 : Int32)), (.int (63744 : Int32)), (.int (64975 : Int32)), (.int (65008 : Int32)), (.int (65533 : Int32)), (.int (65536 : Int32)), (.int (0 : Int32))] (.int (0 : Int32)) := Arv.set Ar143 q143 S143 N143 Hh143 G143 rfl W143 30 rfl (Nat.le_of_ble_eq_true rfl)
  clear Hh143 G143 N143 S143 q143 W143
  clear Ar143
  clear cl143
  replace NF := Fr.snoc X143 NF g_b112
  refine Gl.go ?_ st143
  clear st143 X142 e142
  show Gl _ _ _ _ (T143.setTop (mkF m 201 #[.val (.int u0), .val (.int u1), .val (.int u2), .unset, .unset, .unset, .unset, .unset, .unset] [(.ref b112)]))
  refine Gl.go ?_ (fun t k => XS.dup X143.here hx rfl (hb hby at_201) rfl rfl k)
  show Gl _ _ _ _ (T143.setTop (mkF m 202 #[.val (.int u0), .val (.int u1), .val (.int u2), .unset, .unset, .unset, .unset, .unset, .unset] [(.ref b112), (.ref b112)]))
  refine Gl.go ?_ (fun t k => XS.bipush X143.here hx rfl (hb hby at_202) k)
  show Gl _ _ _ _ (T143.setTop (mkF m 204 #[.val (.int u0), .val (.int u1), .val (.int u2), .unset, .unset, .unset, .unset, .unset, .unset] [(.int (31 : Int32)), (.ref b112), (.ref b112)]))
  refine Gl.go ?_ (X143.ldcInt hx hown (mvT hZ (hw _ (List.mem_of_getElem? (i := 7) rfl))) (g := (mkF m 204 #[.val (.int u0), .val (.int u1), .val (.int u2), .unset, .unset, .unset, .unset, .unset, .unset] [(.int (31 : Int32)), (.ref b112), (.ref b112)])) rfl (hb hby at_204))
  show Gl _ _ _ _ (T143.setTop (mkF m 206 #[.val (.int u0), .val (.int u1), .val (.int u2), .unset, .unset, .unset, .unset, .unset, .unset] [(.int (983039 : Int32)), (.int (31 : Int32)), (.ref b112), (.ref b112)]))
  obtain ⟨cl144, Ar144, q144, S144, N144, Hh144, G144⟩ := V_b112
  obtain ⟨T144, h144, X144, e144, W144, st144⟩ := stI X143 hx hZ e143 Ar144 (j := (31 : Int32)) (inb_of S144 ⟨by decide, by decide⟩) (g := (mkF m 206 #[.val (.int u0), .val (.int u1), .val (.int u2), .unset, .unset, .unset, .unset, .unset, .unset] [(.int (983039 : Int32)), (.int (31 : Int32)), (.ref b112), (.ref b112)])) rfl rfl (hb hby at_206)
  replace S_R := S_R.wr W144
  replace B_R := B_R.other W144 ne_aR_b112
  replace Z0 := Nat.le_trans Z0 (Keep.of_wr W144).1
  have V_b112 : Arv Z h144 b112 k112 .int (32 : Int32) [(.int (58 : Int32)), (.int (58 : Int32)), (.int (65 : Int32)), (.int (90 : Int32)), (.int (95 : Int32)), (.int (95 : Int32)), (.int (97 : Int32)), (.int (122 : Int32)), (.int (192 : Int32)), (.int (214 : Int32)), (.int (216 : Int32)), (.int (246 : Int32)), (.int (248 : Int32)), (.int (767 : Int32)), (.int (880 : Int32)), (.int (893 : Int32)), (.int (895 : Int32)), (.int (8191 : Int32)), (.int (8204 : Int32)), (.int (8205 : Int32)), (.int (8304 : Int32)), (.int (8591 : Int32)), (.int (11264 : Int32)), (.int (12271 : Int32)), (.int (12289 : Int32)), (.int (55295 : Int32)), (.int (63744 : Int32)), (.int (64975 : Int32)), (.int (65008 : Int32)), (.int (65533 : Int32)), (.int (65536 : Int32)), (.int (983039 : Int32))] (.int (0 : Int32)) := Arv.set Ar144 q144 S144 N144 Hh144 G144 rfl W144 31 rfl (Nat.le_of_ble_eq_true rfl)
  clear Hh144 G144 N144 S144 q144 W144
  clear Ar144
  clear cl144
  replace NF := Fr.snoc X144 NF g_b112
  refine Gl.go ?_ st144
  clear st144 X143 e143
  show Gl _ _ _ _ (T144.setTop (mkF m 207 #[.val (.int u0), .val (.int u1), .val (.int u2), .unset, .unset, .unset, .unset, .unset, .unset] [(.ref b112)]))
  have hBb : BA Z h144 b112 .int (32 : Int32) (nth own_R) := BA.of own_R V_b112 (by decide)
  refine Gl.go ?_ (fun t k => XS.astoreN X144.here hx rfl (hb hby at_207) rfl rfl (l' := #[.val (.int u0), .val (.int u1), .val (.int u2), .val (.ref b112), .unset, .unset, .unset, .unset, .unset]) rfl k)
  show Gl _ _ _ _ (T144.setTop (mkF m 208 #[.val (.int u0), .val (.int u1), .val (.int u2), .val (.ref b112), .unset, .unset, .unset, .unset, .unset] []))
  refine Gl.go ?_ (fun t k => XS.aloadN X144.here hx rfl (hb hby at_208) rfl rfl k)
  show Gl _ _ _ _ (T144.setTop (mkF m 209 #[.val (.int u0), .val (.int u1), .val (.int u2), .val (.ref b112), .unset, .unset, .unset, .unset, .unset] [(.ref b112)]))
  refine Gl.go ?_ (fun t k => XS.iloadN X144.here hx rfl (hb hby at_209) rfl k)
  show Gl _ _ _ _ (T144.setTop (mkF m 210 #[.val (.int u0), .val (.int u1), .val (.int u2), .val (.ref b112), .unset, .unset, .unset, .unset, .unset] [(.int u1), (.ref b112)]))
  refine Gl.go ?_ (fun t k => XS.bipush X144.here hx rfl (hb hby at_210) k)
  show Gl _ _ _ _ (T144.setTop (mkF m 212 #[.val (.int u0), .val (.int u1), .val (.int u2), .val (.ref b112), .unset, .unset, .unset, .unset, .unset] [(.int (31 : Int32)), (.int u1), (.ref b112)]))
  refine Gl.go ?_ (fun t k => XS.iand X144.here hx rfl (hb hby at_212) rfl k)
  show Gl _ _ _ _ (T144.setTop (mkF m 213 #[.val (.int u0), .val (.int u1), .val (.int u2), .val (.ref b112), .unset, .unset, .unset, .unset, .unset] [(.int (u1 &&& (31 : Int32))), (.ref b112)]))
  refine Gl.go ?_ (BA.rdI hBb X144 hx hZ e144 hj1 hj2 (g := (mkF m 213 #[.val (.int u0), .val (.int u1), .val (.int u2), .val (.ref b112), .unset, .unset, .unset, .unset, .unset] [(.int (u1 &&& (31 : Int32))), (.ref b112)])) rfl rfl (hb hby at_213))
  show Gl _ _ _ _ (T144.setTop (mkF m 214 #[.val (.int u0), .val (.int u1), .val (.int u2), .val (.ref b112), .unset, .unset, .unset, .unset, .unset] [(.int (nth own_R (u1 &&& (31 : Int32))))]))
  refine Gl.go ?_ (fun t k => XS.iloadN X144.here hx rfl (hb hby at_214) rfl k)
  show Gl _ _ _ _ (T144.setTop (mkF m 215 #[.val (.int u0), .val (.int u1), .val (.int u2), .val (.ref b112), .unset, .unset, .unset, .unset, .unset] [(.int u2), (.int (nth own_R (u1 &&& (31 : Int32))))]))
  refine Gl.go ?_ (X144.ldcInt hx hown (mvT hZ (hw _ (List.mem_of_getElem? (i := 8) rfl))) (g := (mkF m 215 #[.val (.int u0), .val (.int u1), .val (.int u2), .val (.ref b112), .unset, .unset, .unset, .unset, .unset] [(.int u2), (.int (nth own_R (u1 &&& (31 : Int32))))])) rfl (hb hby at_215))
  show Gl _ _ _ _ (T144.setTop (mkF m 217 #[.val (.int u0), .val (.int u1), .val (.int u2), .val (.ref b112), .unset, .unset, .unset, .unset, .unset] [(.int (2147483647 : Int32)), (.int u2), (.int (nth own_R (u1 &&& (31 : Int32))))]))
  refine Gl.go ?_ (fun t k => XS.iand X144.here hx rfl (hb hby at_217) rfl k)
  show Gl _ _ _ _ (T144.setTop (mkF m 218 #[.val (.int u0), .val (.int u1), .val (.int u2), .val (.ref b112), .unset, .unset, .unset, .unset, .unset] [(.int (u2 &&& (2147483647 : Int32))), (.int (nth own_R (u1 &&& (31 : Int32))))]))
  refine Gl.go ?_ (fun t k => XS.iconst X144.here hx rfl (hb hby at_218) k)
  show Gl _ _ _ _ (T144.setTop (mkF m 219 #[.val (.int u0), .val (.int u1), .val (.int u2), .val (.ref b112), .unset, .unset, .unset, .unset, .unset] [(.int (3 : Int32)), (.int (u2 &&& (2147483647 : Int32))), (.int (nth own_R (u1 &&& (31 : Int32))))]))
  refine Gl.go ?_ (fun t k => iremM X144 hx rfl (hb hby at_219) rfl (by decide) k)
  show Gl _ _ _ _ (T144.setTop (mkF m 220 #[.val (.int u0), .val (.int u1), .val (.int u2), .val (.ref b112), .unset, .unset, .unset, .unset, .unset] [(.int ((u2 &&& (2147483647 : Int32)) % (3 : Int32))), (.int (nth own_R (u1 &&& (31 : Int32))))]))
  refine Gl.go ?_ (fun t k => XS.iconst X144.here hx rfl (hb hby at_220) k)
  show Gl _ _ _ _ (T144.setTop (mkF m 221 #[.val (.int u0), .val (.int u1), .val (.int u2), .val (.ref b112), .unset, .unset, .unset, .unset, .unset] [(.int (1 : Int32)), (.int ((u2 &&& (2147483647 : Int32)) % (3 : Int32))), (.int (nth own_R (u1 &&& (31 : Int32))))]))
  refine Gl.go ?_ (fun t k => XS.isub X144.here hx rfl (hb hby at_221) rfl k)
  show Gl _ _ _ _ (T144.setTop (mkF m 222 #[.val (.int u0), .val (.int u1), .val (.int u2), .val (.ref b112), .unset, .unset, .unset, .unset, .unset] [(.int (((u2 &&& (2147483647 : Int32)) % (3 : Int32)) - (1 : Int32))), (.int (nth own_R (u1 &&& (31 : Int32))))]))
  refine Gl.go ?_ (fun t k => XS.iadd X144.here hx rfl (hb hby at_222) rfl k)
  show Gl _ _ _ _ (T144.setTop (mkF m 223 #[.val (.int u0), .val (.int u1), .val (.int u2), .val (.ref b112), .unset, .unset, .unset, .unset, .unset] [(.int ((nth own_R (u1 &&& (31 : Int32))) + (((u2 &&& (2147483647 : Int32)) % (3 : Int32)) - (1 : Int32))))]))
  generalize ((nth own_R (u1 &&& (31 : Int32))) + (((u2 &&& (2147483647 : Int32)) % (3 : Int32)) - (1 : Int32))) = near
  refine Gl.go ?_ (fun t k => XS.istore X144.here hx rfl (hb hby at_223) rfl (l' := #[.val (.int u0), .val (.int u1), .val (.int u2), .val (.ref b112), .val (.int near), .unset, .unset, .unset, .unset]) rfl k)
  show Gl _ _ _ _ (T144.setTop (mkF m 225 #[.val (.int u0), .val (.int u1), .val (.int u2), .val (.ref b112), .val (.int near), .unset, .unset, .unset, .unset] []))
  refine Gl.go ?_ (fun t k => XS.iloadN X144.here hx rfl (hb hby at_225) rfl k)
  show Gl _ _ _ _ (T144.setTop (mkF m 226 #[.val (.int u0), .val (.int u1), .val (.int u2), .val (.ref b112), .val (.int near), .unset, .unset, .unset, .unset] [(.int u0)]))
  refine Gl.go ?_ (X144.ldcInt hx hown (mvT hZ (hw _ (List.mem_of_getElem? (i := 9) rfl))) (g := (mkF m 226 #[.val (.int u0), .val (.int u1), .val (.int u2), .val (.ref b112), .val (.int near), .unset, .unset, .unset, .unset] [(.int u0)])) rfl (hb hby at_226))
  show Gl _ _ _ _ (T144.setTop (mkF m 228 #[.val (.int u0), .val (.int u1), .val (.int u2), .val (.ref b112), .val (.int near), .unset, .unset, .unset, .unset] [(.int (2097151 : Int32)), (.int u0)]))
  refine Gl.go ?_ (fun t k => XS.iand X144.here hx rfl (hb hby at_228) rfl k)
  show Gl _ _ _ _ (T144.setTop (mkF m 229 #[.val (.int u0), .val (.int u1), .val (.int u2), .val (.ref b112), .val (.int near), .unset, .unset, .unset, .unset] [(.int (u0 &&& (2097151 : Int32)))]))
  refine Gl.go ?_ (fun t k => XS.istore X144.here hx rfl (hb hby at_229) rfl (l' := #[.val (.int u0), .val (.int u1), .val (.int u2), .val (.ref b112), .val (.int near), .val (.int (u0 &&& (2097151 : Int32))), .unset, .unset, .unset]) rfl k)
  show Gl _ _ _ _ (T144.setTop (mkF m 231 #[.val (.int u0), .val (.int u1), .val (.int u2), .val (.ref b112), .val (.int near), .val (.int (u0 &&& (2097151 : Int32))), .unset, .unset, .unset] []))
  refine Gl.go ?_ (fun t k => XS.iloadN X144.here hx rfl (hb hby at_231) rfl k)
  show Gl _ _ _ _ (T144.setTop (mkF m 232 #[.val (.int u0), .val (.int u1), .val (.int u2), .val (.ref b112), .val (.int near), .val (.int (u0 &&& (2097151 : Int32))), .unset, .unset, .unset] [(.int u0)]))
  obtain ⟨_, _, ⟨T145, L145, k145, n145⟩, -, X145, ⟨Lc145, hQ145, l145, y145, z145⟩, st145⟩ := Jvm.LawKit.callS X144 hx (y := (⟨"com/example/facet/facet/datatypes/XmlNames", "isNameStartChar", "(I)Z"⟩ : MethodName)) hown (mvT hZ (hw _ (List.mem_of_getElem? (i := 10) rfl))) (mvT hZ (hw _ (List.mem_of_getElem? (i := 11) rfl))) (mvT hZ (hw _ (List.mem_of_getElem? (i := 12) rfl))) (mvT hZ (hw _ (List.mem_of_getElem? (i := 13) rfl))) (by decide) (backOf (W := 0) (rm1 l Z a0 hw [] u0 aR h144 S_R B_R) hZ (hw _ (List.mem_of_getElem? (i := 13) rfl)) (hw _ (List.mem_of_getElem? (i := 12) rfl)) (by decide) (by decide)) (g := (mkF m 232 #[.val (.int u0), .val (.int u1), .val (.int u2), .val (.ref b112), .val (.int near), .val (.int (u0 &&& (2097151 : Int32))), .unset, .unset, .unset] [(.int u0)])) rfl (by rw [hml]; rfl) (argsL := [(.int u0)]) (rest := []) (lenOf pd_0 rfl) rfl (by show 2 * 0 + _ ≤ _; exact Nat.le_of_eq rfl) (hb hby at_232) (fun _ _ => ⟨rfl, e144, (by decide : 1 + 0 ≤ _), (by decide : 32 + 0 ≤ _)⟩)
  dsimp only [Pt.U, Pt.locs, Pt.cells, Pt.slots] at X145 l145 y145 z145 st145 hQ145
  rw [l145, y145, z145] at X145
  clear l145 y145 z145
  obtain ⟨rfl, rfl, e145⟩ := hQ145
  replace NF := Fr.app NF (Fr.nil n0)
  refine Gl.go ?_ st145
  show Gl _ _ _ _ (T145.setTop (mkF m 235 #[.val (.int u0), .val (.int u1), .val (.int u2), .val (.ref b112), .val (.int near), .val (.int (u0 &&& (2097151 : Int32))), .unset, .unset, .unset] [(.int (f_is u0))]))
  refine Gl.go ?_ (fun t k => XS.iloadN X145.here hx rfl (hb hby at_235) rfl k)
  show Gl _ _ _ _ (T145.setTop (mkF m 236 #[.val (.int u0), .val (.int u1), .val (.int u2), .val (.ref b112), .val (.int near), .val (.int (u0 &&& (2097151 : Int32))), .unset, .unset, .unset] [(.int u0), (.int (f_is u0))]))
  obtain ⟨_, _, ⟨T146, L146, k146, n146⟩, -, X146, ⟨Lc146, hQ146, l146, y146, z146⟩, st146⟩ := Jvm.LawKit.callS X145 hx (y := (⟨"com/example/facet/facet/datatypes/XmlNamesIsNameStartCharPinLaw", "spec", "(I)Z"⟩ : MethodName)) hown (mvT hZ (hw _ (List.mem_of_getElem? (i := 16) rfl))) (mvT hZ (hw _ (List.mem_of_getElem? (i := 17) rfl))) (mvT hZ (hw _ (List.mem_of_getElem? (i := 18) rfl))) (mvT hZ (hw _ (List.mem_of_getElem? (i := 19) rfl))) (by decide) (backOf (W := 1) (rm2 l Z a0 hw [] u0 h144) hZ (hw _ (List.mem_of_getElem? (i := 19) rfl)) (hw _ (List.mem_of_getElem? (i := 18) rfl)) (by decide) (by decide)) (g := (mkF m 236 #[.val (.int u0), .val (.int u1), .val (.int u2), .val (.ref b112), .val (.int near), .val (.int (u0 &&& (2097151 : Int32))), .unset, .unset, .unset] [(.int u0), (.int (f_is u0))])) rfl (by rw [hml]; rfl) (argsL := [(.int u0)]) (rest := [(.int (f_is u0))]) (lenOf pd_0 rfl) rfl (by show 2 * 0 + _ ≤ _; exact Nat.le_of_eq rfl) (hb hby at_236) (fun _ _ => ⟨rfl, e145, (by decide : 1 + 0 ≤ _), (by decide : 32 + 0 ≤ _)⟩)
  dsimp only [Pt.U, Pt.locs, Pt.cells, Pt.slots] at X146 l146 y146 z146 st146 hQ146
  rw [l146, y146, z146] at X146
  clear l146 y146 z146
  obtain ⟨rfl, rfl, e146⟩ := hQ146
  replace NF := Fr.app NF (Fr.nil n0)
  refine Gl.go ?_ st146
  show Gl _ _ _ _ (T146.setTop (mkF m 239 #[.val (.int u0), .val (.int u1), .val (.int u2), .val (.ref b112), .val (.int near), .val (.int (u0 &&& (2097151 : Int32))), .unset, .unset, .unset] [(.int (f_spec u0)), (.int (f_is u0))]))
  refine Gl.go ?_ (fun t k => XS.icmpNo X146.here hx rfl (hb hby at_239) rfl (teq (own_same _)).2 k)
  show Gl _ _ _ _ (T146.setTop (mkF m 242 #[.val (.int u0), .val (.int u1), .val (.int u2), .val (.ref b112), .val (.int near), .val (.int (u0 &&& (2097151 : Int32))), .unset, .unset, .unset] []))
  refine Gl.go ?_ (fun t k => XS.iconst X146.here hx rfl (hb hby at_242) k)
  show Gl _ _ _ _ (T146.setTop (mkF m 243 #[.val (.int u0), .val (.int u1), .val (.int u2), .val (.ref b112), .val (.int near), .val (.int (u0 &&& (2097151 : Int32))), .unset, .unset, .unset] [(.int (1 : Int32))]))
  refine Gl.go ?_ (fun t k => XS.goto X146.here hx rfl (pc0 := 243) (pc' := 247) rfl (hb hby at_243) (by decide) (by decide) k)
  show Gl _ _ _ _ (T146.setTop (mkF m 247 #[.val (.int u0), .val (.int u1), .val (.int u2), .val (.ref b112), .val (.int near), .val (.int (u0 &&& (2097151 : Int32))), .unset, .unset, .unset] [(.int (1 : Int32))]))
  refine Gl.go ?_ (fun t k => XS.istore X146.here hx rfl (hb hby at_247) rfl (l' := #[.val (.int u0), .val (.int u1), .val (.int u2), .val (.ref b112), .val (.int near), .val (.int (u0 &&& (2097151 : Int32))), .val (.int (1 : Int32)), .unset, .unset]) rfl k)
  show Gl _ _ _ _ (T146.setTop (mkF m 249 #[.val (.int u0), .val (.int u1), .val (.int u2), .val (.ref b112), .val (.int near), .val (.int (u0 &&& (2097151 : Int32))), .val (.int (1 : Int32)), .unset, .unset] []))
  refine Gl.go ?_ (fun t k => XS.iload X146.here hx rfl (hb hby at_249) rfl k)
  show Gl _ _ _ _ (T146.setTop (mkF m 251 #[.val (.int u0), .val (.int u1), .val (.int u2), .val (.ref b112), .val (.int near), .val (.int (u0 &&& (2097151 : Int32))), .val (.int (1 : Int32)), .unset, .unset] [(.int (u0 &&& (2097151 : Int32)))]))
  obtain ⟨_, _, ⟨T147, L147, k147, n147⟩, -, X147, ⟨Lc147, hQ147, l147, y147, z147⟩, st147⟩ := Jvm.LawKit.callS X146 hx (y := (⟨"com/example/facet/facet/datatypes/XmlNames", "isNameStartChar", "(I)Z"⟩ : MethodName)) hown (mvT hZ (hw _ (List.mem_of_getElem? (i := 10) rfl))) (mvT hZ (hw _ (List.mem_of_getElem? (i := 11) rfl))) (mvT hZ (hw _ (List.mem_of_getElem? (i := 12) rfl))) (mvT hZ (hw _ (List.mem_of_getElem? (i := 13) rfl))) (by decide) (backOf (W := 0) (rm1 l Z a0 hw [] (u0 &&& (2097151 : Int32)) aR h144 S_R B_R) hZ (hw _ (List.mem_of_getElem? (i := 13) rfl)) (hw _ (List.mem_of_getElem? (i := 12) rfl)) (by decide) (by decide)) (g := (mkF m 251 #[.val (.int u0), .val (.int u1), .val (.int u2), .val (.ref b112), .val (.int near), .val (.int (u0 &&& (2097151 : Int32))), .val (.int (1 : Int32)), .unset, .unset] [(.int (u0 &&& (2097151 : Int32)))])) rfl (by rw [hml]; rfl) (argsL := [(.int (u0 &&& (2097151 : Int32)))]) (rest := []) (lenOf pd_0 rfl) rfl (by show 2 * 0 + _ ≤ _; exact Nat.le_of_eq rfl) (hb hby at_251) (fun _ _ => ⟨rfl, e146, (by decide : 1 + 0 ≤ _), (by decide : 32 + 0 ≤ _)⟩)
  dsimp only [Pt.U, Pt.locs, Pt.cells, Pt.slots] at X147 l147 y147 z147 st147 hQ147
  rw [l147, y147, z147] at X147
  clear l147 y147 z147
  obtain ⟨rfl, rfl, e147⟩ := hQ147
  replace NF := Fr.app NF (Fr.nil n0)
  refine Gl.go ?_ st147
  show Gl _ _ _ _ (T147.setTop (mkF m 254 #[.val (.int u0), .val (.int u1), .val (.int u2), .val (.ref b112), .val (.int near), .val (.int (u0 &&& (2097151 : Int32))), .val (.int (1 : Int32)), .unset, .unset] [(.int (f_is (u0 &&& (2097151 : Int32))))]))
  refine Gl.go ?_ (fun t k => XS.iload X147.here hx rfl (hb hby at_254) rfl k)
  show Gl _ _ _ _ (T147.setTop (mkF m 256 #[.val (.int u0), .val (.int u1), .val (.int u2), .val (.ref b112), .val (.int near), .val (.int (u0 &&& (2097151 : Int32))), .val (.int (1 : Int32)), .unset, .unset] [(.int (u0 &&& (2097151 : Int32))), (.int (f_is (u0 &&& (2097151 : Int32))))]))
  obtain ⟨_, _, ⟨T148, L148, k148, n148⟩, -, X148, ⟨Lc148, hQ148, l148, y148, z148⟩, st148⟩ := Jvm.LawKit.callS X147 hx (y := (⟨"com/example/facet/facet/datatypes/XmlNamesIsNameStartCharPinLaw", "spec", "(I)Z"⟩ : MethodName)) hown (mvT hZ (hw _ (List.mem_of_getElem? (i := 16) rfl))) (mvT hZ (hw _ (List.mem_of_getElem? (i := 17) rfl))) (mvT hZ (hw _ (List.mem_of_getElem? (i := 18) rfl))) (mvT hZ (hw _ (List.mem_of_getElem? (i := 19) rfl))) (by decide) (backOf (W := 1) (rm2 l Z a0 hw [] (u0 &&& (2097151 : Int32)) h144) hZ (hw _ (List.mem_of_getElem? (i := 19) rfl)) (hw _ (List.mem_of_getElem? (i := 18) rfl)) (by decide) (by decide)) (g := (mkF m 256 #[.val (.int u0), .val (.int u1), .val (.int u2), .val (.ref b112), .val (.int near), .val (.int (u0 &&& (2097151 : Int32))), .val (.int (1 : Int32)), .unset, .unset] [(.int (u0 &&& (2097151 : Int32))), (.int (f_is (u0 &&& (2097151 : Int32))))])) rfl (by rw [hml]; rfl) (argsL := [(.int (u0 &&& (2097151 : Int32)))]) (rest := [(.int (f_is (u0 &&& (2097151 : Int32))))]) (lenOf pd_0 rfl) rfl (by show 2 * 0 + _ ≤ _; exact Nat.le_of_eq rfl) (hb hby at_256) (fun _ _ => ⟨rfl, e147, (by decide : 1 + 0 ≤ _), (by decide : 32 + 0 ≤ _)⟩)
  dsimp only [Pt.U, Pt.locs, Pt.cells, Pt.slots] at X148 l148 y148 z148 st148 hQ148
  rw [l148, y148, z148] at X148
  clear l148 y148 z148
  obtain ⟨rfl, rfl, e148⟩ := hQ148
  replace NF := Fr.app NF (Fr.nil n0)
  refine Gl.go ?_ st148
  show Gl _ _ _ _ (T148.setTop (mkF m 259 #[.val (.int u0), .val (.int u1), .val (.int u2), .val (.ref b112), .val (.int near), .val (.int (u0 &&& (2097151 : Int32))), .val (.int (1 : Int32)), .unset, .unset] [(.int (f_spec (u0 &&& (2097151 : Int32)))), (.int (f_is (u0 &&& (2097151 : Int32))))]))
  refine Gl.go ?_ (fun t k => XS.icmpNo X148.here hx rfl (hb hby at_259) rfl (teq (own_same _)).2 k)
  show Gl _ _ _ _ (T148.setTop (mkF m 262 #[.val (.int u0), .val (.int u1), .val (.int u2), .val (.ref b112), .val (.int near), .val (.int (u0 &&& (2097151 : Int32))), .val (.int (1 : Int32)), .unset, .unset] []))
  refine Gl.go ?_ (fun t k => XS.iconst X148.here hx rfl (hb hby at_262) k)
  show Gl _ _ _ _ (T148.setTop (mkF m 263 #[.val (.int u0), .val (.int u1), .val (.int u2), .val (.ref b112), .val (.int near), .val (.int (u0 &&& (2097151 : Int32))), .val (.int (1 : Int32)), .unset, .unset] [(.int (1 : Int32))]))
  refine Gl.go ?_ (fun t k => XS.goto X148.here hx rfl (pc0 := 263) (pc' := 267) rfl (hb hby at_263) (by decide) (by decide) k)
  show Gl _ _ _ _ (T148.setTop (mkF m 267 #[.val (.int u0), .val (.int u1), .val (.int u2), .val (.ref b112), .val (.int near), .val (.int (u0 &&& (2097151 : Int32))), .val (.int (1 : Int32)), .unset, .unset] [(.int (1 : Int32))]))
  refine Gl.go ?_ (fun t k => XS.istore X148.here hx rfl (hb hby at_267) rfl (l' := #[.val (.int u0), .val (.int u1), .val (.int u2), .val (.ref b112), .val (.int near), .val (.int (u0 &&& (2097151 : Int32))), .val (.int (1 : Int32)), .val (.int (1 : Int32)), .unset]) rfl k)
  show Gl _ _ _ _ (T148.setTop (mkF m 269 #[.val (.int u0), .val (.int u1), .val (.int u2), .val (.ref b112), .val (.int near), .val (.int (u0 &&& (2097151 : Int32))), .val (.int (1 : Int32)), .val (.int (1 : Int32)), .unset] []))
  refine Gl.go ?_ (fun t k => XS.iload X148.here hx rfl (hb hby at_269) rfl k)
  show Gl _ _ _ _ (T148.setTop (mkF m 271 #[.val (.int u0), .val (.int u1), .val (.int u2), .val (.ref b112), .val (.int near), .val (.int (u0 &&& (2097151 : Int32))), .val (.int (1 : Int32)), .val (.int (1 : Int32)), .unset] [(.int near)]))
  obtain ⟨_, _, ⟨T149, L149, k149, n149⟩, -, X149, ⟨Lc149, hQ149, l149, y149, z149⟩, st149⟩ := Jvm.LawKit.callS X148 hx (y := (⟨"com/example/facet/facet/datatypes/XmlNames", "isNameStartChar", "(I)Z"⟩ : MethodName)) hown (mvT hZ (hw _ (List.mem_of_getElem? (i := 10) rfl))) (mvT hZ (hw _ (List.mem_of_getElem? (i := 11) rfl))) (mvT hZ (hw _ (List.mem_of_getElem? (i := 12) rfl))) (mvT hZ (hw _ (List.mem_of_getElem? (i := 13) rfl))) (by decide) (backOf (W := 0) (rm1 l Z a0 hw [] near aR h144 S_R B_R) hZ (hw _ (List.mem_of_getElem? (i := 13) rfl)) (hw _ (List.mem_of_getElem? (i := 12) rfl)) (by decide) (by decide)) (g := (mkF m 271 #[.val (.int u0), .val (.int u1), .val (.int u2), .val (.ref b112), .val (.int near), .val (.int (u0 &&& (2097151 : Int32))), .val (.int (1 : Int32)), .val (.int (1 : Int32)), .unset] [(.int near)])) rfl (by rw [hml]; rfl) (argsL := [(.int near)]) (rest := []) (lenOf pd_0 rfl) rfl (by show 2 * 0 + _ ≤ _; exact Nat.le_of_eq rfl) (hb hby at_271) (fun _ _ => ⟨rfl, e148, (by decide : 1 + 0 ≤ _), (by decide : 32 + 0 ≤ _)⟩)
  dsimp only [Pt.U, Pt.locs, Pt.cells, Pt.slots] at X149 l149 y149 z149 st149 hQ149
  rw [l149, y149, z149] at X149
  clear l149 y149 z149
  obtain ⟨rfl, rfl, e149⟩ := hQ149
  replace NF := Fr.app NF (Fr.nil n0)
  refine Gl.go ?_ st149
  show Gl _ _ _ _ (T149.setTop (mkF m 274 #[.val (.int u0), .val (.int u1), .val (.int u2), .val (.ref b112), .val (.int near), .val (.int (u0 &&& (2097151 : Int32))), .val (.int (1 : Int32)), .val (.int (1 : Int32)), .unset] [(.int (f_is near))]))
  refine Gl.go ?_ (fun t k => XS.iload X149.here hx rfl (hb hby at_274) rfl k)
  show Gl _ _ _ _ (T149.setTop (mkF m 276 #[.val (.int u0), .val (.int u1), .val (.int u2), .val (.ref b112), .val (.int near), .val (.int (u0 &&& (2097151 : Int32))), .val (.int (1 : Int32)), .val (.int (1 : Int32)), .unset] [(.int near), (.int (f_is near))]))
  obtain ⟨_, _, ⟨T150, L150, k150, n150⟩, -, X150, ⟨Lc150, hQ150, l150, y150, z150⟩, st150⟩ := Jvm.LawKit.callS X149 hx (y := (⟨"com/example/facet/facet/datatypes/XmlNamesIsNameStartCharPinLaw", "spec", "(I)Z"⟩ : MethodName)) hown (mvT hZ (hw _ (List.mem_of_getElem? (i := 16) rfl))) (mvT hZ (hw _ (List.mem_of_getElem? (i := 17) rfl))) (mvT hZ (hw _ (List.mem_of_getElem? (i := 18) rfl))) (mvT hZ (hw _ (List.mem_of_getElem? (i := 19) rfl))) (by decide) (backOf (W := 1) (rm2 l Z a0 hw [] near h144) hZ (hw _ (List.mem_of_getElem? (i := 19) rfl)) (hw _ (List.mem_of_getElem? (i := 18) rfl)) (by decide) (by decide)) (g := (mkF m 276 #[.val (.int u0), .val (.int u1), .val (.int u2), .val (.ref b112), .val (.int near), .val (.int (u0 &&& (2097151 : Int32))), .val (.int (1 : Int32)), .val (.int (1 : Int32)), .unset] [(.int near), (.int (f_is near))])) rfl (by rw [hml]; rfl) (argsL := [(.int near)]) (rest := [(.int (f_is near))]) (lenOf pd_0 rfl) rfl (by show 2 * 0 + _ ≤ _; exact Nat.le_of_eq rfl) (hb hby at_276) (fun _ _ => ⟨rfl, e149, (by decide : 1 + 0 ≤ _), (by decide : 32 + 0 ≤ _)⟩)
  dsimp only [Pt.U, Pt.locs, Pt.cells, Pt.slots] at X150 l150 y150 z150 st150 hQ150
  rw [l150, y150, z150] at X150
  clear l150 y150 z150
  obtain ⟨rfl, rfl, e150⟩ := hQ150
  replace NF := Fr.app NF (Fr.nil n0)
  refine Gl.go ?_ st150
  show Gl _ _ _ _ (T150.setTop (mkF m 279 #[.val (.int u0), .val (.int u1), .val (.int u2), .val (.ref b112), .val (.int near), .val (.int (u0 &&& (2097151 : Int32))), .val (.int (1 : Int32)), .val (.int (1 : Int32)), .unset] [(.int (f_spec near)), (.int (f_is near))]))
  refine Gl.go ?_ (fun t k => XS.icmpNo X150.here hx rfl (hb hby at_279) rfl (teq (own_same _)).2 k)
  show Gl _ _ _ _ (T150.setTop (mkF m 282 #[.val (.int u0), .val (.int u1), .val (.int u2), .val (.ref b112), .val (.int near), .val (.int (u0 &&& (2097151 : Int32))), .val (.int (1 : Int32)), .val (.int (1 : Int32)), .unset] []))
  refine Gl.go ?_ (fun t k => XS.iconst X150.here hx rfl (hb hby at_282) k)
  show Gl _ _ _ _ (T150.setTop (mkF m 283 #[.val (.int u0), .val (.int u1), .val (.int u2), .val (.ref b112), .val (.int near), .val (.int (u0 &&& (2097151 : Int32))), .val (.int (1 : Int32)), .val (.int (1 : Int32)), .unset] [(.int (1 : Int32))]))
  refine Gl.go ?_ (fun t k => XS.goto X150.here hx rfl (pc0 := 283) (pc' := 287) rfl (hb hby at_283) (by decide) (by decide) k)
  show Gl _ _ _ _ (T150.setTop (mkF m 287 #[.val (.int u0), .val (.int u1), .val (.int u2), .val (.ref b112), .val (.int near), .val (.int (u0 &&& (2097151 : Int32))), .val (.int (1 : Int32)), .val (.int (1 : Int32)), .unset] [(.int (1 : Int32))]))
  refine Gl.go ?_ (fun t k => XS.istore X150.here hx rfl (hb hby at_287) rfl (l' := #[.val (.int u0), .val (.int u1), .val (.int u2), .val (.ref b112), .val (.int near), .val (.int (u0 &&& (2097151 : Int32))), .val (.int (1 : Int32)), .val (.int (1 : Int32)), .val (.int (1 : Int32))]) rfl k)
  show Gl _ _ _ _ (T150.setTop (mkF m 289 #[.val (.int u0), .val (.int u1), .val (.int u2), .val (.ref b112), .val (.int near), .val (.int (u0 &&& (2097151 : Int32))), .val (.int (1 : Int32)), .val (.int (1 : Int32)), .val (.int (1 : Int32))] []))
  refine Gl.go ?_ (fun t k => XS.iload X150.here hx rfl (hb hby at_289) rfl k)
  show Gl _ _ _ _ (T150.setTop (mkF m 291 #[.val (.int u0), .val (.int u1), .val (.int u2), .val (.ref b112), .val (.int near), .val (.int (u0 &&& (2097151 : Int32))), .val (.int (1 : Int32)), .val (.int (1 : Int32)), .val (.int (1 : Int32))] [(.int (1 : Int32))]))
  refine Gl.go ?_ (fun t k => XS.ifNo X150.here hx rfl (hb hby at_291) rfl ((if0 _ _).trans (feq (by decide : ¬ ((1 : Int32) = (0 : Int32)))).1) k)
  show Gl _ _ _ _ (T150.setTop (mkF m 294 #[.val (.int u0), .val (.int u1), .val (.int u2), .val (.ref b112), .val (.int near), .val (.int (u0 &&& (2097151 : Int32))), .val (.int (1 : Int32)), .val (.int (1 : Int32)), .val (.int (1 : Int32))] []))
  refine Gl.go ?_ (fun t k => XS.iload X150.here hx rfl (hb hby at_294) rfl k)
  show Gl _ _ _ _ (T150.setTop (mkF m 296 #[.val (.int u0), .val (.int u1), .val (.int u2), .val (.ref b112), .val (.int near), .val (.int (u0 &&& (2097151 : Int32))), .val (.int (1 : Int32)), .val (.int (1 : Int32)), .val (.int (1 : Int32))] [(.int (1 : Int32))]))
  refine Gl.go ?_ (fun t k => XS.ifNo X150.here hx rfl (hb hby at_296) rfl ((if0 _ _).trans (feq (by decide : ¬ ((1 : Int32) = (0 : Int32)))).1) k)
  show Gl _ _ _ _ (T150.setTop (mkF m 299 #[.val (.int u0), .val (.int u1), .val (.int u2), .val (.ref b112), .val (.int near), .val (.int (u0 &&& (2097151 : Int32))), .val (.int (1 : Int32)), .val (.int (1 : Int32)), .val (.int (1 : Int32))] []))
  refine Gl.go ?_ (fun t k => XS.iload X150.here hx rfl (hb hby at_299) rfl k)
  show Gl _ _ _ _ (T150.setTop (mkF m 301 #[.val (.int u0), .val (.int u1), .val (.int u2), .val (.ref b112), .val (.int near), .val (.int (u0 &&& (2097151 : Int32))), .val (.int (1 : Int32)), .val (.int (1 : Int32)), .val (.int (1 : Int32))] [(.int (1 : Int32))]))
  refine Gl.go ?_ (fun t k => XS.ifNo X150.here hx rfl (hb hby at_301) rfl ((if0 _ _).trans (feq (by decide : ¬ ((1 : Int32) = (0 : Int32)))).1) k)
  show Gl _ _ _ _ (T150.setTop (mkF m 304 #[.val (.int u0), .val (.int u1), .val (.int u2), .val (.ref b112), .val (.int near), .val (.int (u0 &&& (2097151 : Int32))), .val (.int (1 : Int32)), .val (.int (1 : Int32)), .val (.int (1 : Int32))] []))
  refine Gl.go ?_ (fun t k => XS.iconst X150.here hx rfl (hb hby at_304) k)
  show Gl _ _ _ _ (T150.setTop (mkF m 305 #[.val (.int u0), .val (.int u1), .val (.int u2), .val (.ref b112), .val (.int near), .val (.int (u0 &&& (2097151 : Int32))), .val (.int (1 : Int32)), .val (.int (1 : Int32)), .val (.int (1 : Int32))] [(.int (1 : Int32))]))
  refine Gl.go ?_ (fun t k => XS.goto X150.here hx rfl (pc0 := 305) (pc' := 309) rfl (hb hby at_305) (by decide) (by decide) k)
  show Gl _ _ _ _ (T150.setTop (mkF m 309 #[.val (.int u0), .val (.int u1), .val (.int u2), .val (.ref b112), .val (.int near), .val (.int (u0 &&& (2097151 : Int32))), .val (.int (1 : Int32)), .val (.int (1 : Int32)), .val (.int (1 : Int32))] [(.int (1 : Int32))]))
  obtain ⟨fs, hr, hrun, hended, hW, hsame⟩ := X150.leave (v := some (.int (1 : Int32))) (fun h => by rw [Bd.returns] at h; cases h) (BodyLoose.notSynchronized Bd)
  exact Gl.mk ⟨_, _, retN X150 hx (t := .boolean) Bd.returns (by simp) (hb hby at_309) hr, hrun, hended, _, _, rfl, ⟨congrArg (fun z => some (Value.int z)) (rfl).symm, NF⟩, ⟨_, rfl⟩, hW, hsame.mono (by decide) (by decide)⟩
theorem own_one (u0 u1 u2 : Int32) : f_law u0 u1 u2 = 1 := rfl
set_option maxRecDepth 65536 in
set_option maxHeartbeats 40000000 in
theorem comes_1 {Post : Tables → Env → Array Value → State → Outcome → State → Prop} (hpost : ∀ tb e args s v u, (limb_1_1.after args s (.returned v) u = true ∧ limb_1_2.after args s (.returned v) u = true ∧ True) → FrameEnd s (.returned v) u (Jvm.fieldLocs frame_1_writes args s ++ Jvm.arrayLocs frame_1_arrays args s ++ Jvm.staticLocs frame_1_statics s) 16 128 → Post tb e args s (.returned v) u) :
    ArmFor flags0 classFile x code maxLocals ret World_1 tables_1 room_1 Calls_1 rest_1 Pre_1 Post := by
  intro l hfl _ _ p e ha hc hk s m args below hf hA hF happ hP
  obtain ⟨hcalls, hrest, hpre⟩ := hP
  obtain ⟨-, -, -, hnamed, -, -, -, hat⟩ := (Spec.applies_iff hf).mp happ
  obtain ⟨hg, hn⟩ := and_e (Cond.before_iff.mp (show (Jvm.Cond.and given_1 narrow_1).before args s = true from hpre))
  obtain ⟨g1, g2⟩ := and_e hg
  obtain ⟨g3, g4⟩ := and_e g2
  obtain ⟨g5, g6⟩ := and_e g4
  obtain ⟨g7, g8⟩ := and_e hn
  obtain ⟨g9, g10⟩ := and_e g8
  obtain ⟨g11, g12⟩ := and_e g10
  obtain ⟨g13, g14⟩ := and_e g12
  obtain ⟨g15, g16⟩ := and_e g14
  obtain ⟨g17, g18⟩ := and_e g16
  obtain ⟨g19, g20⟩ := and_e g18
  obtain ⟨g21, g22⟩ := and_e g20
  obtain ⟨g23, g24⟩ := and_e g22
  obtain ⟨g25, g26⟩ := and_e g24
  obtain ⟨g27, g28⟩ := and_e g26
  obtain ⟨g29, g30⟩ := and_e g28
  obtain ⟨g31, g32⟩ := and_e g30
  obtain ⟨g33, g34⟩ := and_e g32
  obtain ⟨g35, g36⟩ := and_e g34
  obtain ⟨g37, g38⟩ := and_e g36
  obtain ⟨g39, g40⟩ := and_e g38
  obtain ⟨g41, g42⟩ := and_e g40
  obtain ⟨g43, g44⟩ := and_e g42
  obtain ⟨g45, g46⟩ := and_e g44
  obtain ⟨g47, g48⟩ := and_e g46
  obtain ⟨g49, g50⟩ := and_e g48
  obtain ⟨g51, g52⟩ := and_e g50
  obtain ⟨g53, g54⟩ := and_e g52
  obtain ⟨g55, g56⟩ := and_e g54
  obtain ⟨g57, g58⟩ := and_e g56
  obtain ⟨g59, g60⟩ := and_e g58
  obtain ⟨g61, g62⟩ := and_e g60
  obtain ⟨g63, g64⟩ := and_e g62
  obtain ⟨g65, g66⟩ := and_e g64
  obtain ⟨g67, g68⟩ := and_e g66
  obtain ⟨g69, g70⟩ := and_e g68
  obtain ⟨g71, g72⟩ := and_e g70
  obtain ⟨w0, w1, w2, rfl⟩ : ∃ w0 w1 w2 : Value, args = #[w0, w1, w2] := by
    have hs : args.size = 3 := by simpa [Cond.value, given_1] using g1
    obtain ⟨L⟩ := args
    match L, hs with
    | [w0, w1, w2], _ => exact ⟨w0, w1, w2, rfl⟩
  have hw := fun d (hd : d ∈ tables_1) => atoms_spec (ws := Jvm.Cond.code x code maxLocals ret :: tables_1) hat d (List.mem_cons_of_mem _ hd)
  have hfit : Fit s := fun {y c} hc i hi => by
    obtain ⟨ha, rfl⟩ := Array.getElem?_eq_some_iff.mp hc
    have q := List.all_eq_true.mp ((Array.all_eq_true_iff_forall_mem.mp hF) _ (Array.getElem_mem ha)) i (List.mem_range.mpr hi)
    simpa [Array.getElem?_eq_getElem hi] using q
  obtain ⟨i0, ei0⟩ := is_v g3
  obtain rfl : w0 = (.int i0) := Option.some.inj ei0
  obtain ⟨i1, ei1⟩ := is_v g5
  obtain rfl : w1 = (.int i1) := Option.some.inj ei1
  obtain ⟨i2, ei2⟩ := is_v g6
  obtain rfl : w2 = (.int i2) := Option.some.inj ei2
  obtain ⟨aR, ev⟩ := arr_v g7
  obtain ⟨cl, Ar⟩ := Arr.start ev g7
  have S_R := Sta.start ev (Or.inr ⟨(hw _ (List.mem_of_getElem? (i := 12) rfl)), (hw _ (List.mem_of_getElem? (i := 15) rfl))⟩)
  have hl := own_eqv g9 (Term.int_eval (32)) (Or.inr ⟨_, rfl⟩)
  have e0 := (elem_in (own_eqv g11 (Term.int_eval (58)) (Or.inr ⟨_, rfl⟩)) ev (Term.int_eval (0)) Ar.1).2
  have e1 := (elem_in (own_eqv g13 (Term.int_eval (58)) (Or.inr ⟨_, rfl⟩)) ev (Term.int_eval (1)) Ar.1).2
  have e2 := (elem_in (own_eqv g15 (Term.int_eval (65)) (Or.inr ⟨_, rfl⟩)) ev (Term.int_eval (2)) Ar.1).2
  have e3 := (elem_in (own_eqv g17 (Term.int_eval (90)) (Or.inr ⟨_, rfl⟩)) ev (Term.int_eval (3)) Ar.1).2
  have e4 := (elem_in (own_eqv g19 (Term.int_eval (95)) (Or.inr ⟨_, rfl⟩)) ev (Term.int_eval (4)) Ar.1).2
  have e5 := (elem_in (own_eqv g21 (Term.int_eval (95)) (Or.inr ⟨_, rfl⟩)) ev (Term.int_eval (5)) Ar.1).2
  have e6 := (elem_in (own_eqv g23 (Term.int_eval (97)) (Or.inr ⟨_, rfl⟩)) ev (Term.int_eval (6)) Ar.1).2
  have e7 := (elem_in (own_eqv g25 (Term.int_eval (122)) (Or.inr ⟨_, rfl⟩)) ev (Term.int_eval (7)) Ar.1).2
  have e8 := (elem_in (own_eqv g27 (Term.int_eval (192)) (Or.inr ⟨_, rfl⟩)) ev (Term.int_eval (8)) Ar.1).2
  have e9 := (elem_in (own_eqv g29 (Term.int_eval (214)) (Or.inr ⟨_, rfl⟩)) ev (Term.int_eval (9)) Ar.1).2
  have e10 := (elem_in (own_eqv g31 (Term.int_eval (216)) (Or.inr ⟨_, rfl⟩)) ev (Term.int_eval (10)) Ar.1).2
  have e11 := (elem_in (own_eqv g33 (Term.int_eval (246)) (Or.inr ⟨_, rfl⟩)) ev (Term.int_eval (11)) Ar.1).2
  have e12 := (elem_in (own_eqv g35 (Term.int_eval (248)) (Or.inr ⟨_, rfl⟩)) ev (Term.int_eval (12)) Ar.1).2
  have e13 := (elem_in (own_eqv g37 (Term.int_eval (767)) (Or.inr ⟨_, rfl⟩)) ev (Term.int_eval (13)) Ar.1).2
  have e14 := (elem_in (own_eqv g39 (Term.int_eval (880)) (Or.inr ⟨_, rfl⟩)) ev (Term.int_eval (14)) Ar.1).2
  have e15 := (elem_in (own_eqv g41 (Term.int_eval (893)) (Or.inr ⟨_, rfl⟩)) ev (Term.int_eval (15)) Ar.1).2
  have e16 := (elem_in (own_eqv g43 (Term.int_eval (895)) (Or.inr ⟨_, rfl⟩)) ev (Term.int_eval (16)) Ar.1).2
  have e17 := (elem_in (own_eqv g45 (Term.int_eval (8191)) (Or.inr ⟨_, rfl⟩)) ev (Term.int_eval (17)) Ar.1).2
  have e18 := (elem_in (own_eqv g47 (Term.int_eval (8204)) (Or.inr ⟨_, rfl⟩)) ev (Term.int_eval (18)) Ar.1).2
  have e19 := (elem_in (own_eqv g49 (Term.int_eval (8205)) (Or.inr ⟨_, rfl⟩)) ev (Term.int_eval (19)) Ar.1).2
  have e20 := (elem_in (own_eqv g51 (Term.int_eval (8304)) (Or.inr ⟨_, rfl⟩)) ev (Term.int_eval (20)) Ar.1).2
  have e21 := (elem_in (own_eqv g53 (Term.int_eval (8591)) (Or.inr ⟨_, rfl⟩)) ev (Term.int_eval (21)) Ar.1).2
  have e22 := (elem_in (own_eqv g55 (Term.int_eval (11264)) (Or.inr ⟨_, rfl⟩)) ev (Term.int_eval (22)) Ar.1).2
  have e23 := (elem_in (own_eqv g57 (Term.int_eval (12271)) (Or.inr ⟨_, rfl⟩)) ev (Term.int_eval (23)) Ar.1).2
  have e24 := (elem_in (own_eqv g59 (Term.int_eval (12289)) (Or.inr ⟨_, rfl⟩)) ev (Term.int_eval (24)) Ar.1).2
  have e25 := (elem_in (own_eqv g61 (Term.int_eval (55295)) (Or.inr ⟨_, rfl⟩)) ev (Term.int_eval (25)) Ar.1).2
  have e26 := (elem_in (own_eqv g63 (Term.int_eval (63744)) (Or.inr ⟨_, rfl⟩)) ev (Term.int_eval (26)) Ar.1).2
  have e27 := (elem_in (own_eqv g65 (Term.int_eval (64975)) (Or.inr ⟨_, rfl⟩)) ev (Term.int_eval (27)) Ar.1).2
  have e28 := (elem_in (own_eqv g67 (Term.int_eval (65008)) (Or.inr ⟨_, rfl⟩)) ev (Term.int_eval (28)) Ar.1).2
  have e29 := (elem_in (own_eqv g69 (Term.int_eval (65533)) (Or.inr ⟨_, rfl⟩)) ev (Term.int_eval (29)) Ar.1).2
  have e30 := (elem_in (own_eqv g71 (Term.int_eval (65536)) (Or.inr ⟨_, rfl⟩)) ev (Term.int_eval (30)) Ar.1).2
  have e31 := (elem_in (own_eqv g72 (Term.int_eval (983039)) (Or.inr ⟨_, rfl⟩)) ev (Term.int_eval (31)) Ar.1).2
  have B_R : BA s s.heap aR .int (32 : Int32) (nth own_R) := own_BA32 hfit Ar ev hl ⟨e0, e1, e2, e3, e4, e5, e6, e7, e8, e9, e10, e11, e12, e13, e14, e15, e16, e17, e18, e19, e20, e21, e22, e23, e24, e25, e26, e27, e28, e29, e30, e31, trivial⟩
  obtain ⟨hj1, hj2⟩ := own_m31 i1
  obtain ⟨n, o, h1, h2, h3, _, L, rfl, ⟨rfl, N⟩, hq⟩ := rm0 l s _ hw tables_1 i0 i1 i2 aR s.heap s.heap.size (Nat.le_refl _) S_R B_R hj1 hj2 p e ha hc hk s m _ below hf ((Spec.applies_iff_loose hf).mp happ).1 ⟨rfl, State.Warmed39.refl s, rfl⟩ trivial
  refine ⟨n, _, h1, h2, h3, hpost _ _ _ _ _ _ ⟨Cond.after_iff.mpr rfl, Cond.after_iff.mpr (eq_i res_at (Term.int_eval (1)) (congrArg Value.int (own_one _ _ _))), trivial⟩ ⟨hq.1, hq.2.1, (hq.2.2.sift fun y hy => Or.inr (N y hy)).mono (by decide) (by decide)⟩⟩
theorem main_1_1 : Claimed_1_1 := comes_1 fun _ _ _ _ _ _ h hF => ⟨h.1, hF⟩
theorem main_1_2 : Claimed_1_2 := comes_1 fun _ _ _ _ _ _ h hF => ⟨h.2.1, hF⟩
end Jvm.Pilot.@@N@@
namespace Jvm.Pilot.@@N@@
open Jvm Jvm.ClassFile Sem Op Lib Jvm.Free Jvm.Stand Jvm.Pilot.@@N@@.Jvm.D
/-! MADE BY PROGRAM (witnessworld.py) out of the Statement's table words and the real class files: 9 classes; the members and pool entries that the words name. The judged class is class 1, her method 2. -/
namespace start1
open Jvm.ClassFile
def u (s : String) : CpInfo := .utf8 (stringToUtf16 s)
/-- a pool by its gaps: so many unusable entries, then the entry; so many at the end -/
def gap : Nat → List CpInfo → List CpInfo
  | 0, r => r
  | n + 1, r => .unusable :: gap n r
def poolList (es : List (Nat × CpInfo)) (last : Nat) : List CpInfo := es.foldr (fun e r => gap e.1 (e.2 :: r)) (gap last [])
def pool (es : List (Nat × CpInfo)) (last : Nat) : Array CpInfo := ⟨poolList es last⟩
def fileOf (pool : Array CpInfo) (this : Nat) (attrs : Array Attribute := #[]) (ms : Array MethodInfo := #[]) (fl : Nat := 33) (sup : Nat := 0) (ifs : Array Nat := #[]) (fds : Array FieldInfo := #[]) : ClassFile where
  minorVersion := 0
  majorVersion := 65
  constantPool := pool
  accessFlags := fl
  thisClass := this
  superClass := sup
  interfaces := ifs
  fields := fds
  methods := ms
  attributes := attrs
def plain (name : String) (sup : Option ClassId) : Class where
  name := name
  kind := .ordinary
  loader := none
  accessFlags := 33
  super := sup
  interfaces := #[]
  cf := none
  fields := #[]
  methods := #[]
  instanceTypes := #[]
  staticTypes := #[]
  resolved := #[]
  callSites := []
  init := .initialized
  statics := none
  mirror := none

def pool0 : Array CpInfo := pool [(5, u "<init>"), (0, u "()V"), (1, .class_ 10), (1, u "java/lang/Object")] 113

def k0m0 : Method := { name := "<init>", desc := "()V", sig := { parameters := [], returnType := none }, accessFlags := 1, code := none }
/-- java/lang/Object -/
def k0 : Class := { plain "java/lang/Object" none with
  accessFlags := 33
  interfaces := #[]
  cf := some (fileOf pool0 8 #[] #[{ accessFlags := 1, nameIndex := 5, descriptorIndex := 6, attributes := #[] }] 33 0 #[] #[])
  fields := #[]
  methods := #[k0m0]
  instanceTypes := #[]
  staticTypes := #[]
  resolved := Array.replicate 124 none
  statics := none }

def pool1 : Array CpInfo := pool [(2, .class_ 4), (1, u "java/lang/Object"), (0, u "<init>"), (0, u "()V"), (0, .integer 55295), (0, .integer 63744), (0, .integer 64975), (0, .integer 65008), (0, .integer 65533), (0, .integer 65536), (0, .integer 983039), (0, .integer 2147483647), (0, .integer 2097151), (0, .methodref 17 18), (0, .class_ 19), (0, .nameAndType 20 21), (0, u "com/example/facet/facet/datatypes/XmlNames"), (0, u "isNameStartChar"), (0, u "(I)Z"), (0, .methodref 23 24), (0, .class_ 25), (0, .nameAndType 26 21), (0, u "com/example/facet/facet/datatypes/XmlNamesIsNameStartCharPinLaw"), (0, u "spec"), (3, u "law"), (0, u "(III)Z")] 4

def k1m0 : Method := { name := "<init>", desc := "()V", sig := { parameters := [], returnType := none }, accessFlags := 2, code := none }
def k1c1 : Code := { maxStack := 2, maxLocals := 1, code := method_2_code, exceptionTable := #[], attributes := #[] }
def k1m1 : Method := { name := "spec", desc := "(I)Z", sig := { parameters := [.int], returnType := some .boolean }, accessFlags := 10, code := some k1c1 }
def k1c2 : Code := { maxStack := 4, maxLocals := 9, code := code, exceptionTable := #[], attributes := #[] }
def k1m2 : Method := { name := "law", desc := "(III)Z", sig := { parameters := [.int, .int, .int], returnType := some .boolean }, accessFlags := 9, code := some k1c2 }
/-- com/example/facet/facet/datatypes/XmlNamesIsNameStartCharPinLaw -/
def k1 : Class := { plain "com/example/facet/facet/datatypes/XmlNamesIsNameStartCharPinLaw" (some 0) with
  accessFlags := 49
  interfaces := #[]
  cf := some (fileOf pool1 23 #[] #[{ accessFlags := 2, nameIndex := 5, descriptorIndex := 6, attributes := #[] }, { accessFlags := 10, nameIndex := 26, descriptorIndex := 21, attributes := #[] }, { accessFlags := 9, nameIndex := 30, descriptorIndex := 31, attributes := #[] }] 49 2 #[] #[])
  fields := #[]
  methods := #[k1m0, k1m1, k1m2]
  instanceTypes := #[]
  staticTypes := #[]
  resolved := Array.replicate 36 none
  statics := none }

def pool2 : Array CpInfo := pool [(2, .class_ 4), (1, u "java/lang/Object"), (0, u "<init>"), (0, u "()V"), (0, .fieldref 8 9), (0, .class_ 10), (0, .nameAndType 11 12), (0, u "com/example/facet/facet/datatypes/XmlNames"), (0, u "NAME_START_RANGES"), (0, u "[I"), (2, u "isNameStartChar"), (0, u "(I)Z")] 39

def k2m0 : Method := { name := "<init>", desc := "()V", sig := { parameters := [], returnType := none }, accessFlags := 2, code := none }
def k2c1 : Code := { maxStack := 4, maxLocals := 2, code := prog_185_method_2_code, exceptionTable := #[], attributes := #[] }
def k2m1 : Method := { name := "isNameStartChar", desc := "(I)Z", sig := { parameters := [.int], returnType := some .boolean }, accessFlags := 9, code := some k2c1 }
/-- com/example/facet/facet/datatypes/XmlNames -/
def k2 : Class := { plain "com/example/facet/facet/datatypes/XmlNames" (some 0) with
  accessFlags := 33
  interfaces := #[]
  cf := some (fileOf pool2 8 #[] #[{ accessFlags := 2, nameIndex := 5, descriptorIndex := 6, attributes := #[] }, { accessFlags := 9, nameIndex := 15, descriptorIndex := 16, attributes := #[] }] 33 2 #[] #[{ accessFlags := 26, nameIndex := 11, descriptorIndex := 12, attributes := #[] }])
  fields := #[{ name := "NAME_START_RANGES", type := (.array .int), accessFlags := 26, slot := 0, constantValue := 0 }]
  methods := #[k2m0, k2m1]
  instanceTypes := #[]
  staticTypes := #[(.array .int)]
  resolved := Array.replicate 56 none
  statics := some 0 }

def pool3 : Array CpInfo := pool [(1, u "java/lang/Cloneable"), (0, .class_ 1), (0, u "java/lang/Object"), (0, .class_ 3)] 3

/-- java/lang/Cloneable -/
def k3 : Class := { plain "java/lang/Cloneable" (some 0) with
  accessFlags := 1537
  interfaces := #[]
  cf := some (fileOf pool3 2 #[] #[] 1537 4 #[] #[])
  fields := #[]
  methods := #[]
  instanceTypes := #[]
  staticTypes := #[]
  resolved := Array.replicate 8 none
  statics := none }

def pool4 : Array CpInfo := pool [(1, u "java/io/Serializable"), (0, .class_ 1), (0, u "java/lang/Object"), (0, .class_ 3)] 3

/-- java/io/Serializable -/
def k4 : Class := { plain "java/io/Serializable" (some 0) with
  accessFlags := 1537
  interfaces := #[]
  cf := some (fileOf pool4 2 #[] #[] 1537 4 #[] #[])
  fields := #[]
  methods := #[]
  instanceTypes := #[]
  staticTypes := #[]
  resolved := Array.replicate 8 none
  statics := none }

/-- the primitive byte -/
def k5 : Class := { plain "byte" none with kind := .primitive 'B', accessFlags := 0x411 }
/-- [B -/
def k6 : Class := { plain "[B" (some 0) with kind := .array 5 .byte, interfaces := #[3, 4], accessFlags := 1041 }

/-- the primitive int -/
def k7 : Class := { plain "int" none with kind := .primitive 'I', accessFlags := 0x411 }
/-- [I -/
def k8 : Class := { plain "[I" (some 0) with kind := .array 7 .int, interfaces := #[3, 4], accessFlags := 1041 }

def heap : Heap := #[{ cls := 2, slots := #[.ref 1], vm := .statics 2 },
  { cls := 8, slots := #[.int 58, .int 58, .int 65, .int 90, .int 95, .int 95, .int 97, .int 122, .int 192, .int 214, .int 216, .int 246, .int 248, .int 767, .int 880, .int 893, .int 895, .int 8191, .int 8204, .int 8205, .int 8304, .int 8591, .int 11264, .int 12271, .int 12289, .int 55295, .int 63744, .int 64975, .int 65008, .int 65533, .int 65536, .int 983039], vm := .none }]
def classes : Array Class := #[k0, k1, k2, k3, k4, k5, k6, k7, k8]
def interned : List (Array UInt16 × Addr) := []
def slotsUsed : Nat := 33
def theMethod : MethodId := ⟨1, 2⟩
def args0 : Array Value := #[.int 5, .int 6, .int 7]
def aboutOver (below : List Frame) : State where
  vm := { classes := classes, interned := interned.toArray }
  heap := heap
  slotsUsed := slotsUsed
  threads := #[{ frames := .invoking theMethod args0 :: below }]
def below0 : List Frame := [.native { method := ⟨0, 0⟩, args := #[] }]
def about1 : State := aboutOver below0
def p0 : Program := .bare "" "" ""
def e0 : Env := launch0.env 0 0 0
theorem w_frames : about1.frames = Frame.invoking theMethod args0 :: below0 := rfl
set_option maxRecDepth 65536 in
theorem w_args : argsFit about1.vm theMethod args0 = true := by decide +kernel
set_option maxRecDepth 65536 in
theorem w_heap : heapFits about1 = true := by decide +kernel
set_option maxRecDepth 65536 in
theorem w_runnable : about1.curStatus? = some .runnable := by decide +kernel
set_option maxRecDepth 65536 in
theorem w_alone : about1.alone = true := by decide +kernel
set_option maxRecDepth 65536 in
theorem w_named : about1.methodNamed? x = some theMethod := by decide +kernel
set_option maxRecDepth 65536 in
theorem w_hears : about1.hears theMethod below0 = true := by decide +kernel
set_option maxRecDepth 65536 in
theorem w_ripe : about1.ripe theMethod args0 below0 = true := by decide +kernel
theorem w_running : about1.status = .running := rfl
set_option maxRecDepth 65536 in
theorem w_room : about1.hasRoom e0.platform room_1 = true :=
  launch0.hasRoom_least _ room_1 (by decide +kernel) (by decide +kernel) (by decide +kernel) (by decide +kernel) (by decide +kernel) (by decide +kernel)
theorem allAtoms_all (ts : List Jvm.Cond) (a : Array Jvm.Value) (st : Jvm.State) : (allAtoms ts).before a st = ts.all (fun c => c.before a st) := by
  induction ts with
  | nil => rfl
  | cons c t ih =>
    show (Jvm.Cond.and c (allAtoms t)).before a st = _
    rw [Jvm.Cond.before_and, ih, List.all_cons]
def words1 : List Jvm.Cond := Jvm.Cond.code x code maxLocals ret :: tables_1
/-- a 'code' word, met by the world's own term for the bytes: nothing is compared byte by byte -/
theorem code_word {y : MethodName} {bytes : ByteArray} {mx : Nat} {rt : Option FieldType} {a : Array Value} {s : State} {m : MethodId} {meth : Method} {c : Code} (h1 : s.methodNamed? y = some m) (h2 : s.vm.method? m = some meth) (h3 : meth.code = some c) (h4 : c.code = bytes)
    (h5 : (c.maxLocals == mx && c.exceptionTable.isEmpty && decide (c.maxStack ≤ mostOperands) && decide (meth.sig.returnType = rt) && !meth.locks && decide (parseMethodDescriptor y.desc = some meth.sig)) = true) : (Jvm.Cond.code y bytes mx rt).before a s = true := by
  simp only [Bool.and_eq_true, beq_iff_eq, Bool.not_eq_true', decide_eq_true_eq] at h5
  obtain ⟨⟨⟨⟨⟨g1, g2⟩, g3⟩, g4⟩, g5⟩, g6⟩ := h5
  simp [Cond.before, Cond.holds, Cond.value, h1, h2, h3, h4, g1, g2, g3, g4, g5, g6]
def isCode : Jvm.Cond → Bool
  | .code _ _ _ _ => true
  | _ => false
theorem all_split {L : List Jvm.Cond} {P : Jvm.Cond → Bool} (h1 : L.all (fun c => isCode c || P c) = true) (h2 : ∀ c ∈ L.filter isCode, P c = true) : L.all P = true := by
  refine List.all_eq_true.mpr fun c hc => ?_
  have h := List.all_eq_true.mp h1 c hc
  rcases Bool.eq_false_or_eq_true (isCode c) with hi | hi
  · exact h2 c (List.mem_filter.mpr ⟨hc, hi⟩)
  · simpa [hi] using h
set_option maxRecDepth 65536 in
theorem w_c0 : (Jvm.Cond.code x code maxLocals ret).before args0 about1 = true := code_word (m := ⟨1, 2⟩) (meth := k1m2) (c := k1c2) (by decide +kernel) rfl rfl rfl (by decide +kernel)
set_option maxRecDepth 65536 in
theorem w_c1 : (Jvm.Cond.code ({ cls := "com/example/facet/facet/datatypes/XmlNames", name := "isNameStartChar", desc := "(I)Z" } : Jvm.MethodName) prog_185_method_2_code (2 : Nat) (Option.some Jvm.ClassFile.FieldType.boolean)).before args0 about1 = true := code_word (m := ⟨2, 1⟩) (meth := k2m1) (c := k2c1) (by decide +kernel) rfl rfl rfl (by decide +kernel)
set_option maxRecDepth 65536 in
theorem w_c2 : (Jvm.Cond.code ({ cls := "com/example/facet/facet/datatypes/XmlNamesIsNameStartCharPinLaw", name := "spec", desc := "(I)Z" } : Jvm.MethodName) method_2_code (1 : Nat) (Option.some Jvm.ClassFile.FieldType.boolean)).before args0 about1 = true := code_word (m := ⟨1, 1⟩) (meth := k1m1) (c := k1c1) (by decide +kernel) rfl rfl rfl (by decide +kernel)
def codes1 : List Jvm.Cond := [Jvm.Cond.code x code maxLocals ret, Jvm.Cond.code ({ cls := "com/example/facet/facet/datatypes/XmlNames", name := "isNameStartChar", desc := "(I)Z" } : Jvm.MethodName) prog_185_method_2_code (2 : Nat) (Option.some Jvm.ClassFile.FieldType.boolean), Jvm.Cond.code ({ cls := "com/example/facet/facet/datatypes/XmlNamesIsNameStartCharPinLaw", name := "spec", desc := "(I)Z" } : Jvm.MethodName) method_2_code (1 : Nat) (Option.some Jvm.ClassFile.FieldType.boolean)]
set_option maxRecDepth 65536 in
theorem codes_eq : words1.filter isCode = codes1 := rfl
theorem w_codes : ∀ c ∈ words1.filter isCode, c.before args0 about1 = true := by
  rw [codes_eq]
  intro c hc
  simp only [codes1, List.mem_cons, List.not_mem_nil, or_false] at hc
  rcases hc with rfl | rfl | rfl
  · exact w_c0
  · exact w_c1
  · exact w_c2
set_option maxRecDepth 65536 in
theorem w_t1 : words1.all (fun c => isCode c || c.before args0 about1) = true := by decide +kernel
theorem w_tables : (allAtoms (Jvm.Cond.code x code maxLocals ret :: tables_1)).before args0 about1 = true := by
  rw [allAtoms_all]
  show words1.all (fun c => c.before args0 about1) = true
  refine all_split ?_ w_codes
  rw [w_t1]
set_option maxRecDepth 65536 in
theorem w_case : (Jvm.Cond.and given_1 narrow_1).before args0 about1 = true := by decide +kernel
theorem w_applies : (headSpec (Jvm.Cond.code x code maxLocals ret :: tables_1) room_1).applies x e0.platform about1 = true :=
  (Spec.applies_iff w_frames).mpr ⟨w_running, w_runnable, w_alone, w_named, w_hears, w_ripe, w_room, w_tables⟩
theorem atStart : AtStart classFile x code maxLocals ret World_1 tables_1 room_1 Calls_1 rest_1 Pre_1 launch0 p0 e0 about1 theMethod args0 below0 :=
  ⟨lists_1, trivial, launch0.admits_env _ _ _, launch0.least_env, fairChoices_fair.cas, fairChoices_fair.clock, w_frames, w_args, w_heap, w_applies, trivial, trivial, w_case⟩
end start1
theorem witness_1 : WitnessClaimed_1 := ⟨start1.p0, start1.e0, start1.about1, start1.theMethod, start1.args0, start1.below0, start1.atStart⟩
end Jvm.Pilot.@@N@@
