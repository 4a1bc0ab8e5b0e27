import JvmDerived
import JvmDerived.Pilot.@@N@@Statement
import JvmDerived.Pilot.@@N@@Code
set_option linter.unusedVariables false
set_option linter.unusedSimpArgs false
namespace Jvm.RoadKit
theorem own_add32 {a b : Int32} (h1 : -2147483648 ≤ a.toInt + b.toInt) (h2 : a.toInt + b.toInt < 2147483648) : (a + b).toInt = a.toInt + b.toInt := by
  rw [Int32.toInt_add]; exact Int.bmod_eq_of_le (by omega) (by omega)
theorem own_sub32 {a b : Int32} (h1 : -2147483648 ≤ a.toInt - b.toInt) (h2 : a.toInt - b.toInt < 2147483648) : (a - b).toInt = a.toInt - b.toInt := by
  rw [Int32.toInt_sub]; exact Int.bmod_eq_of_le (by omega) (by omega)
theorem own_mul32 {a b : Int32} (h1 : -2147483648 ≤ a.toInt * b.toInt) (h2 : a.toInt * b.toInt < 2147483648) : (a * b).toInt = a.toInt * b.toInt := by
  rw [Int32.toInt_mul]; exact Int.bmod_eq_of_le (by omega) (by omega)
theorem own_add64 {a b : Int64} (h1 : -9223372036854775808 ≤ a.toInt + b.toInt) (h2 : a.toInt + b.toInt < 9223372036854775808) : (a + b).toInt = a.toInt + b.toInt := by
  rw [Int64.toInt_add]; exact Int.bmod_eq_of_le (by omega) (by omega)
theorem own_sub64 {a b : Int64} (h1 : -9223372036854775808 ≤ a.toInt - b.toInt) (h2 : a.toInt - b.toInt < 9223372036854775808) : (a - b).toInt = a.toInt - b.toInt := by
  rw [Int64.toInt_sub]; exact Int.bmod_eq_of_le (by omega) (by omega)
theorem own_mul64 {a b : Int64} (h1 : -9223372036854775808 ≤ a.toInt * b.toInt) (h2 : a.toInt * b.toInt < 9223372036854775808) : (a * b).toInt = a.toInt * b.toInt := by
  rw [Int64.toInt_mul]; exact Int.bmod_eq_of_le (by omega) (by omega)
/-- a mask that isn't negative -/
theorem own_mask32 (x k : Int32) (hk : 0 ≤ k.toInt) : 0 ≤ (x &&& k).toInt ∧ (x &&& k).toInt ≤ k.toInt := by
  have hk' : k.toBitVec.toNat < 2 ^ 31 := by
    have := k.toBitVec.isLt
    have e : k.toInt = k.toBitVec.toInt := rfl
    rw [e, BitVec.toInt_eq_toNat_cond] at hk
    split at hk <;> omega
  have h1 : (x &&& k).toInt = (x.toBitVec &&& k.toBitVec).toInt := rfl
  have h2 : (x.toBitVec &&& k.toBitVec).toNat ≤ k.toBitVec.toNat := by rw [BitVec.toNat_and]; exact Nat.and_le_right
  have e : k.toInt = k.toBitVec.toInt := rfl
  rw [h1, e, BitVec.toInt_eq_toNat_of_lt (by omega), BitVec.toInt_eq_toNat_of_lt (by omega)]; omega
theorem own_mask64 (x k : Int64) (hk : 0 ≤ k.toInt) : 0 ≤ (x &&& k).toInt ∧ (x &&& k).toInt ≤ k.toInt := by
  have hk' : k.toBitVec.toNat < 2 ^ 63 := by
    have := k.toBitVec.isLt
    have e : k.toInt = k.toBitVec.toInt := rfl
    rw [e, BitVec.toInt_eq_toNat_cond] at hk
    split at hk <;> omega
  have h1 : (x &&& k).toInt = (x.toBitVec &&& k.toBitVec).toInt := rfl
  have h2 : (x.toBitVec &&& k.toBitVec).toNat ≤ k.toBitVec.toNat := by rw [BitVec.toNat_and]; exact Nat.and_le_right
  have e : k.toInt = k.toBitVec.toInt := rfl
  rw [h1, e, BitVec.toInt_eq_toNat_of_lt (by omega), BitVec.toInt_eq_toNat_of_lt (by omega)]; omega
end Jvm.RoadKit
namespace Jvm.RoadKit
open Sem ClassFile Op Lib Jvm.Stand Jvm.Free Jvm.LawKit
section Own
variable {p : Program} {l : Launch} {e : Env} {R : Room} {s : State} {m : MethodId} {args : Array Value} {below : List Frame} {meth : Method} {c : Code} {T : State} {locs : List Loc} {cells slots : Nat} {Z : State} {h h' : Heap} {a b : Addr} {ty : FieldType} {n : Nat} {f f' : Nat → Value} {sl : Nat} {v : Value} {ws : List Addr}
/-- an array of n places, place i holds f i -/
def ArF (Z : State) (h : Heap) (a : Addr) (ty : FieldType) (n : Nat) (f : Nat → Value) : Prop := ∃ c : Cell, Arr Z h a c ty ∧ c.slots.size = n ∧ n < 2 ^ 31 ∧ ∀ i, i < n → c.slots[i]? = some (f i)
theorem ArF.lt (F : ArF Z h a ty n f) : a < h.size := by obtain ⟨c, A, -⟩ := F; exact A.lt
theorem ArF.ext (F : ArF Z h a ty n f) (E : Ext h h') : ArF Z h' a ty n f := by obtain ⟨c, A, r⟩ := F; exact ⟨c, A.ext E, r⟩
theorem ArF.other (F : ArF Z h a ty n f) (W : Wr h h' b sl v) (q : a ≠ b) : ArF Z h' a ty n f := by obtain ⟨c, A, r⟩ := F; exact ⟨c, A.other W q, r⟩
theorem ArF.keep (F : ArF Z h a ty n f) (K : Keep h h' ws) (q : a ∉ ws) : ArF Z h' a ty n f := by obtain ⟨c, A, r⟩ := F; exact ⟨c, ⟨K.2.1 a c A.1 q, A.2⟩, r⟩
theorem ArF.congr (F : ArF Z h a ty n f) (q : ∀ i, i < n → f i = f' i) : ArF Z h a ty n f' := by obtain ⟨c, A, r1, r2, r3⟩ := F; exact ⟨c, A, r1, r2, fun i hi => by rw [← q i hi]; exact r3 i hi⟩
theorem ArF.new {k : ClassId} {z : Int32} {dv : Value} (A : Arr Z h a (newA k ty z) ty) (q : ¬ z < 0) (hn : z.toNatClampNeg = n) (hdv : defaultValue ty = dv := by rfl) : ArF Z h a ty n (fun _ => dv) := by
  subst hn hdv
  refine ⟨_, A, sz_new _ _ _, (back32 q).2, fun i hi => ?_⟩
  simp [newA, hi]
theorem own_clamp {j : Int32} {i : Nat} (hj : j.toInt = (i : Int)) : j.toNatClampNeg = i := by
  show j.toInt.toNat = i
  rw [hj]; rfl
theorem own_inb {c : Cell} {j : Int32} {i : Nat} (S : c.slots.size = n) (hj : j.toInt = (i : Int)) (hi : i < n) : ¬ (j < 0 ∨ c.slots.size ≤ j.toNatClampNeg) := by
  rw [own_clamp hj, S]
  rintro (q | q)
  · rw [Int32.lt_iff_toInt_lt, hj] at q
    have : (0 : Int32).toInt = 0 := by decide
    omega
  · omega
theorem ArF.setW {i : Nat} {c : Cell} (A : Arr Z h a c ty) (S : c.slots.size = n) (q3 : n < 2 ^ 31) (H : ∀ k, k < n → c.slots[k]? = some (f k)) (W : Wr h h' a i v) : ArF Z h' a ty n (fun q => if q = i then v else f q) := by
  refine ⟨_, A.same W, by rw [sz_set, S], q3, fun k hk => ?_⟩
  by_cases e : k = i
  · subst e; simp [Cell.setSlot, S, hk]
  · simp only [if_neg e, Cell.setSlot]
    rw [Array.getElem?_setIfInBounds_ne (Ne.symm e)]; exact H k hk
theorem ArF.stI (X : Stand p l e R s m args below meth c T locs cells slots) (hx : p.tables.exec = Jvm.exec) (hZ : Z.Warmed39 s.vm) (eT : T.heap = h) (F : ArF Z h a .int n f) {j x : Int32} {i : Nat} (hj : j.toInt = (i : Int)) (hi : i < n) {g : JFrame} (hg : g.method = m) {rest : List Value} (hs : g.stack = .int x :: .int j :: .ref a :: rest) (hd : decode c.code g.pc = .ok (.iastore, 1)) :
    ∃ T' h', Stand p l e R s m args below meth c T' (locs ++ [⟨a, i⟩]) cells slots ∧ T'.heap = h' ∧ Wr h h' a i (.int x) ∧ ArF Z h' a .int n (fun q => if q = i then .int x else f q) ∧ ∀ target, Steps p.tables e below (T'.setTop { g with pc := g.pc + 1, stack := rest }) target → Steps p.tables e below (T.setTop g) target := by
  obtain ⟨c, A, S, q3, H⟩ := F
  obtain ⟨T', h', X', e', W, st⟩ := Jvm.RoadKit.stI X hx hZ eT A (own_inb S hj hi) hg hs hd
  rw [own_clamp hj] at X' W
  exact ⟨T', h', X', e', W, ArF.setW A S q3 H W, st⟩
theorem ArF.stJ (X : Stand p l e R s m args below meth c T locs cells slots) (hx : p.tables.exec = Jvm.exec) (hZ : Z.Warmed39 s.vm) (eT : T.heap = h) (F : ArF Z h a .long n f) {j : Int32} {x : Int64} {i : Nat} (hj : j.toInt = (i : Int)) (hi : i < n) {g : JFrame} (hg : g.method = m) {rest : List Value} (hs : g.stack = .long x :: .int j :: .ref a :: rest) (hd : decode c.code g.pc = .ok (.lastore, 1)) :
    ∃ T' h', Stand p l e R s m args below meth c T' (locs ++ [⟨a, i⟩]) cells slots ∧ T'.heap = h' ∧ Wr h h' a i (.long x) ∧ ArF Z h' a .long n (fun q => if q = i then .long x else f q) ∧ ∀ target, Steps p.tables e below (T'.setTop { g with pc := g.pc + 1, stack := rest }) target → Steps p.tables e below (T.setTop g) target := by
  obtain ⟨c, A, S, q3, H⟩ := F
  obtain ⟨T', h', X', e', W, st⟩ := Jvm.RoadKit.stJ X hx hZ eT A (own_inb S hj hi) hg hs hd
  rw [own_clamp hj] at X' W
  exact ⟨T', h', X', e', W, ArF.setW A S q3 H W, st⟩
theorem ArF.stB (X : Stand p l e R s m args below meth c T locs cells slots) (hx : p.tables.exec = Jvm.exec) (hZ : Z.Warmed39 s.vm) (eT : T.heap = h) (F : ArF Z h a .byte n f) {j x : Int32} {i : Nat} (hj : j.toInt = (i : Int)) (hi : i < n) {g : JFrame} (hg : g.method = m) {rest : List Value} (hs : g.stack = .int x :: .int j :: .ref a :: rest) (hd : decode c.code g.pc = .ok (.bastore, 1)) :
    ∃ T' h', Stand p l e R s m args below meth c T' (locs ++ [⟨a, i⟩]) cells slots ∧ T'.heap = h' ∧ Wr h h' a i (.int (nar .byte x)) ∧ ArF Z h' a .byte n (fun q => if q = i then .int (nar .byte x) else f q) ∧ ∀ target, Steps p.tables e below (T'.setTop { g with pc := g.pc + 1, stack := rest }) target → Steps p.tables e below (T.setTop g) target := by
  obtain ⟨c, A, S, q3, H⟩ := F
  obtain ⟨T', h', X', e', W, st⟩ := Jvm.RoadKit.stB X hx hZ eT A (own_inb S hj hi) hg hs hd
  rw [own_clamp hj] at X' W
  exact ⟨T', h', X', e', W, ArF.setW A S q3 H W, st⟩
theorem ArF.stC (X : Stand p l e R s m args below meth c T locs cells slots) (hx : p.tables.exec = Jvm.exec) (hZ : Z.Warmed39 s.vm) (eT : T.heap = h) (F : ArF Z h a .char n f) {j x : Int32} {i : Nat} (hj : j.toInt = (i : Int)) (hi : i < n) {g : JFrame} (hg : g.method = m) {rest : List Value} (hs : g.stack = .int x :: .int j :: .ref a :: rest) (hd : decode c.code g.pc = .ok (.castore, 1)) :
    ∃ T' h', Stand p l e R s m args below meth c T' (locs ++ [⟨a, i⟩]) cells slots ∧ T'.heap = h' ∧ Wr h h' a i (.int (nar .char x)) ∧ ArF Z h' a .char n (fun q => if q = i then .int (nar .char x) else f q) ∧ ∀ target, Steps p.tables e below (T'.setTop { g with pc := g.pc + 1, stack := rest }) target → Steps p.tables e below (T.setTop g) target := by
  obtain ⟨c, A, S, q3, H⟩ := F
  obtain ⟨T', h', X', e', W, st⟩ := Jvm.RoadKit.stC X hx hZ eT A (own_inb S hj hi) hg hs hd
  rw [own_clamp hj] at X' W
  exact ⟨T', h', X', e', W, ArF.setW A S q3 H W, st⟩
theorem ArF.ldI (X : Stand p l e R s m args below meth c T locs cells slots) (hx : p.tables.exec = Jvm.exec) (hZ : Z.Warmed39 s.vm) (eT : T.heap = h) (F : ArF Z h a .int n f) {j : Int32} {i : Nat} (hj : j.toInt = (i : Int)) (hi : i < n) {v : Int32} (hv : f i = .int v) {g : JFrame} (hg : g.method = m) {rest : List Value} (hs : g.stack = .int j :: .ref a :: rest) (hd : decode c.code g.pc = .ok (.iaload, 1)) :
    ∀ target, Steps p.tables e below (T.setTop { g with pc := g.pc + 1, stack := .int v :: rest }) target → Steps p.tables e below (T.setTop g) target := by
  obtain ⟨c, A, S, q3, H⟩ := F
  exact X.iaload hx (by rw [eT]; exact A.1) (State.isArrayOf_alike hZ.alike A.2.1) A.2.2 (own_inb S hj hi) (by rw [own_clamp hj, ← hv]; exact H i hi) hg hs hd
theorem ArF.ldJ (X : Stand p l e R s m args below meth c T locs cells slots) (hx : p.tables.exec = Jvm.exec) (hZ : Z.Warmed39 s.vm) (eT : T.heap = h) (F : ArF Z h a .long n f) {j : Int32} {i : Nat} (hj : j.toInt = (i : Int)) (hi : i < n) {v : Int64} (hv : f i = .long v) {g : JFrame} (hg : g.method = m) {rest : List Value} (hs : g.stack = .int j :: .ref a :: rest) (hd : decode c.code g.pc = .ok (.laload, 1)) :
    ∀ target, Steps p.tables e below (T.setTop { g with pc := g.pc + 1, stack := .long v :: rest }) target → Steps p.tables e below (T.setTop g) target := by
  obtain ⟨c, A, S, q3, H⟩ := F
  exact X.laload hx (by rw [eT]; exact A.1) (State.isArrayOf_alike hZ.alike A.2.1) A.2.2 (own_inb S hj hi) (by rw [own_clamp hj, ← hv]; exact H i hi) hg hs hd
theorem ArF.ldB (X : Stand p l e R s m args below meth c T locs cells slots) (hx : p.tables.exec = Jvm.exec) (hZ : Z.Warmed39 s.vm) (eT : T.heap = h) (F : ArF Z h a .byte n f) {j : Int32} {i : Nat} (hj : j.toInt = (i : Int)) (hi : i < n) {v : Int32} (hv : f i = .int v) {g : JFrame} (hg : g.method = m) {rest : List Value} (hs : g.stack = .int j :: .ref a :: rest) (hd : decode c.code g.pc = .ok (.baload, 1)) :
    ∀ target, Steps p.tables e below (T.setTop { g with pc := g.pc + 1, stack := .int v :: rest }) target → Steps p.tables e below (T.setTop g) target := by
  obtain ⟨c, A, S, q3, H⟩ := F
  exact X.baloadBytes hx (by rw [eT]; exact A.1) (State.isArrayOf_alike hZ.alike A.2.1) A.2.2 (own_inb S hj hi) (by rw [own_clamp hj, ← hv]; exact H i hi) hg hs hd
theorem ArF.ldC (X : Stand p l e R s m args below meth c T locs cells slots) (hx : p.tables.exec = Jvm.exec) (hZ : Z.Warmed39 s.vm) (eT : T.heap = h) (F : ArF Z h a .char n f) {j : Int32} {i : Nat} (hj : j.toInt = (i : Int)) (hi : i < n) {v : Int32} (hv : f i = .int v) {g : JFrame} (hg : g.method = m) {rest : List Value} (hs : g.stack = .int j :: .ref a :: rest) (hd : decode c.code g.pc = .ok (.caload, 1)) :
    ∀ target, Steps p.tables e below (T.setTop { g with pc := g.pc + 1, stack := .int v :: rest }) target → Steps p.tables e below (T.setTop g) target := by
  obtain ⟨c, A, S, q3, H⟩ := F
  exact X.caload hx (by rw [eT]; exact A.1) (State.isArrayOf_alike hZ.alike A.2.1) A.2.2 (own_inb S hj hi) (by rw [own_clamp hj, ← hv]; exact H i hi) hg hs hd
theorem ArF.ldA (X : Stand p l e R s m args below meth c T locs cells slots) (hx : p.tables.exec = Jvm.exec) (hZ : Z.Warmed39 s.vm) (eT : T.heap = h) (F : ArF Z h a ty n f) (hty : ty.isReference = true) {j : Int32} {i : Nat} (hj : j.toInt = (i : Int)) (hi : i < n) {v : Value} (hv : f i = v) {g : JFrame} (hg : g.method = m) {rest : List Value} (hs : g.stack = .int j :: .ref a :: rest) (hd : decode c.code g.pc = .ok (.aaload, 1)) :
    ∀ target, Steps p.tables e below (T.setTop { g with pc := g.pc + 1, stack := v :: rest }) target → Steps p.tables e below (T.setTop g) target := by
  obtain ⟨c, A, S, q3, H⟩ := F
  exact X.aaload hx (by rw [eT]; exact A.1) (State.isArrayOf_alike hZ.alike A.2.1) hty A.2.2 (own_inb S hj hi) (by rw [own_clamp hj, ← hv]; exact H i hi) hg hs hd
theorem ArF.len (X : Stand p l e R s m args below meth c T locs cells slots) (hx : p.tables.exec = Jvm.exec) (hZ : Z.Warmed39 s.vm) (eT : T.heap = h) (F : ArF Z h a ty n f) {g : JFrame} (hg : g.method = m) {rest : List Value} (hs : g.stack = .ref a :: rest) (hd : decode c.code g.pc = .ok (.arraylength, 1)) :
    ∀ target, Steps p.tables e below (T.setTop { g with pc := g.pc + 1, stack := .int (Int32.ofNat n) :: rest }) target → Steps p.tables e below (T.setTop g) target := by
  obtain ⟨c, A, S, q3, H⟩ := F
  have q := X.arraylength hx (by rw [eT]; exact A.1) (State.isArrayOf_alike hZ.alike A.2.1) hg hs hd
  rw [S] at q
  exact q
theorem own_more (X : Stand p l e R s m args below meth c T locs cells slots) {k n : Nat} (h1 : cells ≤ k) (h2 : slots ≤ n) : Stand p l e R s m args below meth c T locs k n :=
  { X with same := X.same.mono h1 h2 }
theorem own_selP {Z s : State} {a0 args : Array Value} {y : MethodName} {k : Nat} (hZ : Z.Warmed39 s.vm) (wi : (Cond.instantiable y.cls k).before a0 Z = true) (wp : (Cond.privateMethod y).before a0 Z = true) (wm : (Cond.instanceMethod y).before a0 Z = true) (hy : y.cls ≠ "java/lang/invoke/MethodHandle" ∧ y.cls ≠ "java/lang/invoke/VarHandle") : (Cond.selects y.cls y y).before args s = true := by
  have wi' : (Cond.instantiable y.cls k).before args s = true := mvT hZ wi
  obtain ⟨c, q, h1, h2, -, h4, -⟩ := Cond.instantiable_spec wi'
  simp only [Bool.or_eq_false_iff] at h4
  exact Jvm.Stand.selects_self_of_private h1 h2 h4.1 (Cond.privateMethod_at (mvP hZ wp (args := args))) (mvT hZ wm) hy
end Own
end Jvm.RoadKit
namespace Jvm.Pilot.@@N@@
open Jvm Jvm.ClassFile Sem Op Lib Jvm.Free Jvm.Stand Jvm.LawKit Jvm.RoadKit Bundle Jvm.Pilot.@@N@@.Jvm.D
theorem d1_0 : decode prog_36_method_1_code 0 = .ok (.aload_n 0, 1) := by decide +kernel
theorem d1_1 : decode prog_36_method_1_code 1 = .ok (.invokespecial 1, 3) := by decide +kernel
theorem d1_4 : decode prog_36_method_1_code 4 = .ok (.iload_n 1, 1) := by decide +kernel
theorem d1_5 : decode prog_36_method_1_code 5 = .ok (.ifCond .lt 9, 3) := by decide +kernel
theorem d1_8 : decode prog_36_method_1_code 8 = .ok (.lload_n 2, 1) := by decide +kernel
theorem d1_9 : decode prog_36_method_1_code 9 = .ok (.lconst 0, 1) := by decide +kernel
theorem d1_10 : decode prog_36_method_1_code 10 = .ok (.lcmp, 1) := by decide +kernel
theorem d1_11 : decode prog_36_method_1_code 11 = .ok (.ifCond .ge 18, 3) := by decide +kernel
theorem d1_29 : decode prog_36_method_1_code 29 = .ok (.aload_n 0, 1) := by decide +kernel
theorem d1_30 : decode prog_36_method_1_code 30 = .ok (.iload_n 1, 1) := by decide +kernel
theorem d1_31 : decode prog_36_method_1_code 31 = .ok (.putfield 16, 3) := by decide +kernel
theorem d1_34 : decode prog_36_method_1_code 34 = .ok (.aload_n 0, 1) := by decide +kernel
theorem d1_35 : decode prog_36_method_1_code 35 = .ok (.lload_n 2, 1) := by decide +kernel
theorem d1_36 : decode prog_36_method_1_code 36 = .ok (.putfield 22, 3) := by decide +kernel
theorem d1_39 : decode prog_36_method_1_code 39 = .ok (.return_, 1) := by decide +kernel
theorem d2_0 : decode jdk_30_method_1_code 0 = .ok (.aload_n 0, 1) := by decide +kernel
theorem d2_1 : decode jdk_30_method_1_code 1 = .ok (.invokespecial 1, 3) := by decide +kernel
theorem d2_4 : decode jdk_30_method_1_code 4 = .ok (.return_, 1) := by decide +kernel
theorem d4_0 : decode prog_36_method_3_code 0 = .ok (.aload_n 0, 1) := by decide +kernel
theorem d4_1 : decode prog_36_method_3_code 1 = .ok (.aload_n 1, 1) := by decide +kernel
theorem d4_2 : decode prog_36_method_3_code 2 = .ok (.if_acmp .eq 38, 3) := by decide +kernel
theorem d4_5 : decode prog_36_method_3_code 5 = .ok (.aload_n 1, 1) := by decide +kernel
theorem d4_6 : decode prog_36_method_3_code 6 = .ok (.instanceof 17, 3) := by decide +kernel
theorem d4_9 : decode prog_36_method_3_code 9 = .ok (.ifCond .eq 35, 3) := by decide +kernel
theorem d4_12 : decode prog_36_method_3_code 12 = .ok (.aload_n 1, 1) := by decide +kernel
theorem d4_13 : decode prog_36_method_3_code 13 = .ok (.checkcast 17, 3) := by decide +kernel
theorem d4_16 : decode prog_36_method_3_code 16 = .ok (.astore_n 2, 1) := by decide +kernel
theorem d4_17 : decode prog_36_method_3_code 17 = .ok (.aload_n 0, 1) := by decide +kernel
theorem d4_18 : decode prog_36_method_3_code 18 = .ok (.getfield 16, 3) := by decide +kernel
theorem d4_21 : decode prog_36_method_3_code 21 = .ok (.aload_n 2, 1) := by decide +kernel
theorem d4_22 : decode prog_36_method_3_code 22 = .ok (.getfield 16, 3) := by decide +kernel
theorem d4_25 : decode prog_36_method_3_code 25 = .ok (.if_icmp .ne 19, 3) := by decide +kernel
theorem d4_28 : decode prog_36_method_3_code 28 = .ok (.aload_n 0, 1) := by decide +kernel
theorem d4_29 : decode prog_36_method_3_code 29 = .ok (.getfield 22, 3) := by decide +kernel
theorem d4_32 : decode prog_36_method_3_code 32 = .ok (.aload_n 2, 1) := by decide +kernel
theorem d4_33 : decode prog_36_method_3_code 33 = .ok (.getfield 22, 3) := by decide +kernel
theorem d4_36 : decode prog_36_method_3_code 36 = .ok (.lcmp, 1) := by decide +kernel
theorem d4_37 : decode prog_36_method_3_code 37 = .ok (.ifCond .ne 7, 3) := by decide +kernel
theorem d4_40 : decode prog_36_method_3_code 40 = .ok (.iconst 1, 1) := by decide +kernel
theorem d4_41 : decode prog_36_method_3_code 41 = .ok (.goto 4, 3) := by decide +kernel
theorem d4_44 : decode prog_36_method_3_code 44 = .ok (.iconst 0, 1) := by decide +kernel
theorem d4_45 : decode prog_36_method_3_code 45 = .ok (.ireturn, 1) := by decide +kernel
theorem d5_0 : decode jdk_33_method_22_code 0 = .ok (.iload_n 0, 1) := by decide +kernel
theorem d5_1 : decode jdk_33_method_22_code 1 = .ok (.bipush (-128), 2) := by decide +kernel
theorem d5_3 : decode jdk_33_method_22_code 3 = .ok (.if_icmp .lt 20, 3) := by decide +kernel
theorem d5_6 : decode jdk_33_method_22_code 6 = .ok (.iload_n 0, 1) := by decide +kernel
theorem d5_7 : decode jdk_33_method_22_code 7 = .ok (.getstatic 191, 3) := by decide +kernel
theorem d5_10 : decode jdk_33_method_22_code 10 = .ok (.if_icmp .gt 13, 3) := by decide +kernel
theorem d5_13 : decode jdk_33_method_22_code 13 = .ok (.getstatic 195, 3) := by decide +kernel
theorem d5_16 : decode jdk_33_method_22_code 16 = .ok (.iload_n 0, 1) := by decide +kernel
theorem d5_17 : decode jdk_33_method_22_code 17 = .ok (.sipush 128, 3) := by decide +kernel
theorem d5_20 : decode jdk_33_method_22_code 20 = .ok (.iadd, 1) := by decide +kernel
theorem d5_21 : decode jdk_33_method_22_code 21 = .ok (.aaload, 1) := by decide +kernel
theorem d5_22 : decode jdk_33_method_22_code 22 = .ok (.areturn, 1) := by decide +kernel
theorem d5_23 : decode jdk_33_method_22_code 23 = .ok (.new 1, 3) := by decide +kernel
theorem d5_26 : decode jdk_33_method_22_code 26 = .ok (.dup, 1) := by decide +kernel
theorem d5_27 : decode jdk_33_method_22_code 27 = .ok (.iload_n 0, 1) := by decide +kernel
theorem d5_28 : decode jdk_33_method_22_code 28 = .ok (.invokespecial 199, 3) := by decide +kernel
theorem d5_31 : decode jdk_33_method_22_code 31 = .ok (.areturn, 1) := by decide +kernel
theorem d6_0 : decode jdk_33_method_23_code 0 = .ok (.aload_n 0, 1) := by decide +kernel
theorem d6_1 : decode jdk_33_method_23_code 1 = .ok (.invokespecial 202, 3) := by decide +kernel
theorem d6_4 : decode jdk_33_method_23_code 4 = .ok (.aload_n 0, 1) := by decide +kernel
theorem d6_5 : decode jdk_33_method_23_code 5 = .ok (.iload_n 1, 1) := by decide +kernel
theorem d6_6 : decode jdk_33_method_23_code 6 = .ok (.putfield 205, 3) := by decide +kernel
theorem d6_9 : decode jdk_33_method_23_code 9 = .ok (.return_, 1) := by decide +kernel
theorem d7_0 : decode jdk_18_method_1_code 0 = .ok (.aload_n 0, 1) := by decide +kernel
theorem d7_1 : decode jdk_18_method_1_code 1 = .ok (.invokespecial 1, 3) := by decide +kernel
theorem d7_4 : decode jdk_18_method_1_code 4 = .ok (.return_, 1) := by decide +kernel
theorem pn_0 : plainName "java/lang/Record" = true := by first | (simp [plainName, overriddenIn]; done) | decide +kernel
theorem pn_1 : plainName "java/lang/Number" = true := by first | (simp [plainName, overriddenIn]; done) | decide +kernel
theorem pn_2 : plainName "com/example/totality/totality/core/Label" = true := by first | (simp [plainName, overriddenIn]; done) | decide +kernel
theorem pn_3 : plainName "java/lang/Integer" = true := by first | (simp [plainName, overriddenIn]; done) | decide +kernel
theorem pn_4 : plainName "com/example/totality/totality/core/LabelEqualsPinLaw" = true := by first | (simp [plainName, overriddenIn]; done) | decide +kernel
theorem pd_0 : parseMethodDescriptor "()V" = some ⟨[], none⟩ := by decide +kernel
theorem pd_1 : parseMethodDescriptor "(I)V" = some ⟨[.int], none⟩ := by decide +kernel
theorem pd_2 : parseMethodDescriptor "(IJ)V" = some ⟨[.int, .long], none⟩ := by decide +kernel
theorem pd_3 : parseMethodDescriptor "(Ljava/lang/Object;)Z" = some ⟨[(.object "java/lang/Object")], some .boolean⟩ := by decide +kernel
theorem pd_4 : parseMethodDescriptor "(I)Ljava/lang/Integer;" = some ⟨[.int], some (.object "java/lang/Integer")⟩ := by decide +kernel

def own_eq (s t : Int32) (q r : Int64) : Int32 := if s = t then (if q = r then (1 : Int32) else (0 : Int32)) else (0 : Int32)
theorem own_eq_symm (s t : Int32) (q r : Int64) : own_eq t s r q = own_eq s t q r := by
  unfold own_eq
  simp only [eq_comm]
theorem own_nn32 (x : Int32) : ¬ (x &&& (2147483647 : Int32)) < (0 : Int32) := by
  have m := own_mask32 x 2147483647 (by decide)
  rw [Int32.lt_iff_toInt_lt, show (0 : Int32).toInt = 0 by decide]; omega
theorem own_nn64 (x : Int64) : ¬ (x &&& (9223372036854775807 : Int64)) < (0 : Int64) := by
  have m := own_mask64 x 9223372036854775807 (by decide)
  rw [Int64.lt_iff_toInt_lt, show (0 : Int64).toInt = 0 by decide]; omega
def own_IC (Z : State) : Prop := Sta Z Z.heap "java/lang/Integer$IntegerCache" "high" "I" (.int (127 : Int32)) ∧ ∃ (t : Addr) (C : Nat → Addr), Sta Z Z.heap "java/lang/Integer$IntegerCache" "cache" "[Ljava/lang/Integer;" (.ref t) ∧ ArF Z Z.heap t (.object "java/lang/Integer") 256 (fun q => (.ref (C q))) ∧ ∀ q, q < 256 → Exa Z Z.heap (C q) "java/lang/Integer"
theorem own_NSroot {Z : State} {a0 : Array Value} {O K : String} {n : Nat} (w : (Cond.noSuperclass O).before a0 Z = true) (wk : (Cond.instantiable K n).before a0 Z = true) (hn : O ≠ K) : NS Z O K := by
  obtain ⟨c, k, h1, h2, h3, -, -⟩ := Cond.noSuperclass_spec w
  obtain ⟨t, k', g1, -⟩ := Cond.instantiable_spec wk
  have ne := ids_ne h1 g1 hn
  refine ⟨c, t, h1, g1, fun fuel => ?_⟩
  cases fuel with
  | zero => rfl
  | succ f => simp [Vm.isSubclassAux, ne, h2, h3]
theorem own_NSno {Z : State} {a0 : Array Value} {C S K : String} {n : Nat} (w : (Cond.superclass C S).before a0 Z = true) (wk : (Cond.instantiable K n).before a0 Z = true) (ns : NS Z C K) (hn : C ≠ K) : ∃ c t, Z.vm.findClass C = some c ∧ Z.vm.findClass K = some t ∧ Z.vm.assignable c t = false := by
  obtain ⟨c, t, h0, g0, n3⟩ := ns
  obtain ⟨p, k, kp, h1, h2, h3, h4, h5, -, h7⟩ := Cond.superclass_spec h0 w
  obtain ⟨t', k', g1, g2, g5, g7, -⟩ := Cond.instantiable_spec wk
  cases g0.symm.trans g1
  simp only [Bool.or_eq_false_iff] at g7
  have ne := ids_ne h0 g0 hn
  refine ⟨c, t, h0, g0, ?_⟩
  show Z.vm.assignableAux (255 + 1) c t = false
  simp [Vm.assignableAux, ne, h2, g2, h5, g5, g7.1, Vm.isSubclass, n3]
theorem ef_rm2 (m : MethodId) (x0 : Addr) : entryFrame m #[(.ref x0)] 1 = mkF m 0 #[.val (.ref x0)] [] := by first | (simp [entryFrame, mkF, argsToLocals, Value.category]; done) | rfl
def Q_rm2 (Z : State) (a1 : Addr) (h0 : Heap) (n0 : Nat) (v : Option Value) (h : Heap) (L : List Loc) : Prop := v = none ∧ Fr n0 L ∧ h = h0
set_option maxRecDepth 65536 in
set_option maxHeartbeats 40000000 in
theorem rm2 (l : Launch) (Z : State) (a0 : Array Value) (hw : ∀ d ∈ tables_1, d.before a0 Z = true) (ws : List Jvm.Cond) (a1 : Addr) (h0 : Heap) (n0 : Nat) (Z0 : n0 ≤ h0.size)  :
    MetFree l (⟨"java/lang/Record", "<init>", "()V"⟩ : MethodName) (head1 (Jvm.Cond.code (⟨"java/lang/Record", "<init>", "()V"⟩ : MethodName) jdk_30_method_1_code 1 none :: ws) ({ frames := 1, cells := 0, slots := 0, locals := 12 } : Room)) (fun a U => a = #[(.ref a1)] ∧ Z.Warmed39 U.vm ∧ U.heap = h0) (fun _ _ _ _ _ => True) (fun _ U o U' => ∃ v L, o = .returned v ∧ Q_rm2 Z a1 h0 n0 v U'.heap L ∧ FrameEnd U o U' L ({ frames := 1, cells := 0, slots := 0, locals := 12 } : Room).cells ({ frames := 1, cells := 0, slots := 0, locals := 12 } : Room).slots) := by
  refine MetFree.of_bodySF (plainFor_of_name pn_0) hisR ?_
  intro p e s m args below meth c s₁ Bd hml0 hP hK
  obtain ⟨rfl, hZ, hh⟩ := hP
  have hx := Bd.exec
  have hby := Bd.bytes
  have hml : c.maxLocals = 1 := hml0
  have hown : s.vm.findClass "java/lang/Record" = some m.cls := findClass_of_methodNamed Bd.named
  have hnm := (name_of_methodNamed Bd.named Bd.method).1
  have X0 : Stand p l e ({ frames := 1, cells := 0, slots := 0, locals := 12 } : Room) s m #[(.ref a1)] below meth c s₁ [] 0 0 := Stand.of_body Bd
  have e0 : s₁.heap = h0 := by rw [← hh, Bd.state]; rfl
  have N0 := Fr.nil n0
  have pre0 : ∀ t, Steps p.tables e below (s₁.setTop (mkF m 0 #[.val (.ref a1)] [])) t → Steps p.tables e below (s₁.setTop (entryFrame m #[(.ref a1)] 1)) t := fun t k => castTop (ef_rm2 m a1) k
  have S1 : ∀ t, Steps p.tables e below (s₁.setTop (mkF m 1 #[.val (.ref a1)] [(.ref a1)])) t → Steps p.tables e below (s₁.setTop (mkF m 0 #[.val (.ref a1)] [])) t := by
    intro t kt
    show Steps p.tables e below (s₁.setTop (mkF m 0 #[.val (.ref a1)] [])) _
    refine XS.aloadN X0.here hx rfl (hb hby d2_0) rfl rfl ?_
    exact kt
  obtain ⟨T2, X2, e2, st2⟩ := initO X0 hx hZ hown (hw _ (List.mem_of_getElem? (i := 13) rfl)) (hw _ (List.mem_of_getElem? (i := 14) rfl)) (hw _ (List.mem_of_getElem? (i := 15) rfl)) e0 (g := (mkF m 1 #[.val (.ref a1)] [(.ref a1)])) rfl (by rw [hml]; rfl) rfl (hb hby d2_1) (by decide) (W := 0) (by show 2 * 0 + _ ≤ _; exact Nat.le_of_eq rfl) (by decide)
  have C3 : ∀ t, Steps p.tables e below (T2.setTop (mkF m 4 #[.val (.ref a1)] [])) t → Steps p.tables e below (s₁.setTop (mkF m 0 #[.val (.ref a1)] [])) t := (fun t k => (S1 t (st2 t k)))
  obtain ⟨fs, hr, hrun, hended, hW, hsame⟩ := X2.leave (v := none) (fun _ => rfl)
  refine ⟨_, _, pre0 _ (C3 _ ?_), hrun, hended, _, _, rfl, ?_, ⟨_, rfl⟩, hW, hsame.mono (by decide) (by decide)⟩
  · exact X2.returnOut hx Bd.returns (hb hby d2_4) hr
  · show Q_rm2 Z a1 h0 n0 _ T2.heap _
    rw [e2]
    exact ⟨rfl, N0, rfl⟩
theorem ef_rm7 (m : MethodId) (x0 : Addr) : entryFrame m #[(.ref x0)] 1 = mkF m 0 #[.val (.ref x0)] [] := by first | (simp [entryFrame, mkF, argsToLocals, Value.category]; done) | rfl
def Q_rm7 (Z : State) (a1 : Addr) (h0 : Heap) (n0 : Nat) (v : Option Value) (h : Heap) (L : List Loc) : Prop := v = none ∧ Fr n0 L ∧ h = h0
set_option maxRecDepth 65536 in
set_option maxHeartbeats 40000000 in
theorem rm7 (l : Launch) (Z : State) (a0 : Array Value) (hw : ∀ d ∈ tables_1, d.before a0 Z = true) (ws : List Jvm.Cond) (a1 : Addr) (h0 : Heap) (n0 : Nat) (Z0 : n0 ≤ h0.size)  :
    MetFree l (⟨"java/lang/Number", "<init>", "()V"⟩ : MethodName) (head1 (Jvm.Cond.code (⟨"java/lang/Number", "<init>", "()V"⟩ : MethodName) jdk_18_method_1_code 1 none :: ws) ({ frames := 1, cells := 0, slots := 0, locals := 12 } : Room)) (fun a U => a = #[(.ref a1)] ∧ Z.Warmed39 U.vm ∧ U.heap = h0) (fun _ _ _ _ _ => True) (fun _ U o U' => ∃ v L, o = .returned v ∧ Q_rm7 Z a1 h0 n0 v U'.heap L ∧ FrameEnd U o U' L ({ frames := 1, cells := 0, slots := 0, locals := 12 } : Room).cells ({ frames := 1, cells := 0, slots := 0, locals := 12 } : Room).slots) := by
  refine MetFree.of_bodySF (plainFor_of_name pn_1) hisR ?_
  intro p e s m args below meth c s₁ Bd hml0 hP hK
  obtain ⟨rfl, hZ, hh⟩ := hP
  have hx := Bd.exec
  have hby := Bd.bytes
  have hml : c.maxLocals = 1 := hml0
  have hown : s.vm.findClass "java/lang/Number" = some m.cls := findClass_of_methodNamed Bd.named
  have hnm := (name_of_methodNamed Bd.named Bd.method).1
  have X0 : Stand p l e ({ frames := 1, cells := 0, slots := 0, locals := 12 } : Room) s m #[(.ref a1)] below meth c s₁ [] 0 0 := Stand.of_body Bd
  have e0 : s₁.heap = h0 := by rw [← hh, Bd.state]; rfl
  have N0 := Fr.nil n0
  have pre0 : ∀ t, Steps p.tables e below (s₁.setTop (mkF m 0 #[.val (.ref a1)] [])) t → Steps p.tables e below (s₁.setTop (entryFrame m #[(.ref a1)] 1)) t := fun t k => castTop (ef_rm7 m a1) k
  have S4 : ∀ t, Steps p.tables e below (s₁.setTop (mkF m 1 #[.val (.ref a1)] [(.ref a1)])) t → Steps p.tables e below (s₁.setTop (mkF m 0 #[.val (.ref a1)] [])) t := by
    intro t kt
    show Steps p.tables e below (s₁.setTop (mkF m 0 #[.val (.ref a1)] [])) _
    refine XS.aloadN X0.here hx rfl (hb hby d7_0) rfl rfl ?_
    exact kt
  obtain ⟨T5, X5, e5, st5⟩ := initO X0 hx hZ hown (hw _ (List.mem_of_getElem? (i := 49) rfl)) (hw _ (List.mem_of_getElem? (i := 14) rfl)) (hw _ (List.mem_of_getElem? (i := 15) rfl)) e0 (g := (mkF m 1 #[.val (.ref a1)] [(.ref a1)])) rfl (by rw [hml]; rfl) rfl (hb hby d7_1) (by decide) (W := 0) (by show 2 * 0 + _ ≤ _; exact Nat.le_of_eq rfl) (by decide)
  have C6 : ∀ t, Steps p.tables e below (T5.setTop (mkF m 4 #[.val (.ref a1)] [])) t → Steps p.tables e below (s₁.setTop (mkF m 0 #[.val (.ref a1)] [])) t := (fun t k => (S4 t (st5 t k)))
  obtain ⟨fs, hr, hrun, hended, hW, hsame⟩ := X5.leave (v := none) (fun _ => rfl)
  refine ⟨_, _, pre0 _ (C6 _ ?_), hrun, hended, _, _, rfl, ?_, ⟨_, rfl⟩, hW, hsame.mono (by decide) (by decide)⟩
  · exact X5.returnOut hx Bd.returns (hb hby d7_4) hr
  · show Q_rm7 Z a1 h0 n0 _ T5.heap _
    rw [e5]
    exact ⟨rfl, N0, rfl⟩
theorem ef_rm1 (m : MethodId) (x0 : Addr) (x1 : Int32) (x2 : Int64) : entryFrame m #[(.ref x0), (.int x1), (.long x2)] 4 = mkF m 0 #[.val (.ref x0), .val (.int x1), .val (.long x2), .second] [] := by first | (simp [entryFrame, mkF, argsToLocals, Value.category]; done) | rfl
def Q_rm1 (Z : State) (a1 : Addr) (s1 : Int32) (q1 : Int64) (h0 : Heap) (n0 : Nat) (v : Option Value) (h : Heap) (L : List Loc) : Prop := v = none ∧ Fr n0 L ∧ Keep h0 h [a1] ∧ Fld Z h a1 "com/example/totality/totality/core/Label" "sender" "I" (.int s1) ∧ Fld Z h a1 "com/example/totality/totality/core/Label" "sequence" "J" (.long q1)
set_option maxRecDepth 65536 in
set_option maxHeartbeats 40000000 in
theorem rm1 (l : Launch) (Z : State) (a0 : Array Value) (hw : ∀ d ∈ tables_1, d.before a0 Z = true) (ws : List Jvm.Cond) (a1 : Addr) (s1 : Int32) (q1 : Int64) (h0 : Heap) (n0 : Nat) (Z0 : n0 ≤ h0.size) (F7 : Exa Z h0 a1 "com/example/totality/totality/core/Label") (F8 : Fld Z h0 a1 "com/example/totality/totality/core/Label" "sender" "I" (.int (0 : Int32))) (F9 : Fld Z h0 a1 "com/example/totality/totality/core/Label" "sequence" "J" (.long (0 : Int64))) (g_a1 : n0 ≤ a1) (hs : ¬ s1 < (0 : Int32)) (hq : ¬ q1 < (0 : Int64)) :
    MetFree l (⟨"com/example/totality/totality/core/Label", "<init>", "(IJ)V"⟩ : MethodName) (head1 (Jvm.Cond.code (⟨"com/example/totality/totality/core/Label", "<init>", "(IJ)V"⟩ : MethodName) prog_36_method_1_code 4 none :: ws) ({ frames := 2, cells := 0, slots := 0, locals := 24 } : Room)) (fun a U => a = #[(.ref a1), (.int s1), (.long q1)] ∧ Z.Warmed39 U.vm ∧ U.heap = h0) (fun _ _ _ _ _ => True) (fun _ U o U' => ∃ v L, o = .returned v ∧ Q_rm1 Z a1 s1 q1 h0 n0 v U'.heap L ∧ FrameEnd U o U' L ({ frames := 2, cells := 0, slots := 0, locals := 24 } : Room).cells ({ frames := 2, cells := 0, slots := 0, locals := 24 } : Room).slots) := by
  refine MetFree.of_bodySF (plainFor_of_name pn_2) hisR ?_
  intro p e s m args below meth c s₁ Bd hml0 hP hK
  obtain ⟨rfl, hZ, hh⟩ := hP
  have hx := Bd.exec
  have hby := Bd.bytes
  have hml : c.maxLocals = 4 := hml0
  have hown : s.vm.findClass "com/example/totality/totality/core/Label" = some m.cls := findClass_of_methodNamed Bd.named
  have hnm := (name_of_methodNamed Bd.named Bd.method).1
  have X0 : Stand p l e ({ frames := 2, cells := 0, slots := 0, locals := 24 } : Room) s m #[(.ref a1), (.int s1), (.long q1)] below meth c s₁ [] 0 0 := Stand.of_body Bd
  have e0 : s₁.heap = h0 := by rw [← hh, Bd.state]; rfl
  have N0 := Fr.nil n0
  have pre0 : ∀ t, Steps p.tables e below (s₁.setTop (mkF m 0 #[.val (.ref a1), .val (.int s1), .val (.long q1), .second] [])) t → Steps p.tables e below (s₁.setTop (entryFrame m #[(.ref a1), (.int s1), (.long q1)] 4)) t := fun t k => castTop (ef_rm1 m a1 s1 q1) k
  have S10 : ∀ t, Steps p.tables e below (s₁.setTop (mkF m 1 #[.val (.ref a1), .val (.int s1), .val (.long q1), .second] [(.ref a1)])) t → Steps p.tables e below (s₁.setTop (mkF m 0 #[.val (.ref a1), .val (.int s1), .val (.long q1), .second] [])) t := by
    intro t kt
    show Steps p.tables e below (s₁.setTop (mkF m 0 #[.val (.ref a1), .val (.int s1), .val (.long q1), .second] [])) _
    refine XS.aloadN X0.here hx rfl (hb hby d1_0) rfl rfl ?_
    exact kt
  obtain ⟨_, _, ⟨T11, L11, k11, n11⟩, -, X11, ⟨Lc11, hQ11, l11, y11, z11⟩, st11⟩ := X0.specialBack hx (y := (⟨"java/lang/Record", "<init>", "()V"⟩ : MethodName)) rfl hown (mvT hZ (hw _ (List.mem_of_getElem? (i := 8) rfl))) (mvT hZ (hw _ (List.mem_of_getElem? (i := 9) rfl))) (mvT hZ (hw _ (List.mem_of_getElem? (i := 12) rfl))) (by decide) (backOf (W := 0) (rm2 l Z a0 hw [] a1 h0 n0 Z0 ) hZ (hw _ (List.mem_of_getElem? (i := 12) rfl)) (hw _ (List.mem_of_getElem? (i := 11) rfl)) (by decide) (by decide)) (g := (mkF m 1 #[.val (.ref a1), .val (.int s1), .val (.long q1), .second] [(.ref a1)])) rfl (by rw [hml]; rfl) (Steps.refl _) (a := a1) (argsL := []) (rest := []) (lenOf pd_0 rfl) rfl (by show 2 * 0 + _ ≤ _; exact Nat.le_of_eq rfl) (hb hby d1_1) (fun _ _ => ⟨rfl, e0, (by decide : 0 + 0 ≤ _), (by decide : 0 + 0 ≤ _)⟩)
  dsimp only [Pt.U, Pt.locs, Pt.cells, Pt.slots] at X11 l11 y11 z11 st11 hQ11
  subst l11 y11 z11
  obtain ⟨rfl, N11q, e11⟩ := hQ11
  have N11 := Fr.app N0 N11q
  have S12 : ∀ t, Steps p.tables e below (T11.setTop (mkF m 31 #[.val (.ref a1), .val (.int s1), .val (.long q1), .second] [(.int s1), (.ref a1)])) t → Steps p.tables e below (T11.setTop (mkF m 4 #[.val (.ref a1), .val (.int s1), .val (.long q1), .second] [])) t := by
    intro t kt
    show Steps p.tables e below (T11.setTop (mkF m 4 #[.val (.ref a1), .val (.int s1), .val (.long q1), .second] [])) _
    refine XS.iloadN X11.here hx rfl (hb hby d1_4) rfl ?_
    show Steps p.tables e below (T11.setTop (mkF m 5 #[.val (.ref a1), .val (.int s1), .val (.long q1), .second] [(.int s1)])) _
    refine XS.ifNo X11.here hx rfl (hb hby d1_5) rfl ((if0 _ _).trans (flt hs).1) ?_
    show Steps p.tables e below (T11.setTop (mkF m 8 #[.val (.ref a1), .val (.int s1), .val (.long q1), .second] [])) _
    refine XS.lloadN X11.here hx rfl (hb hby d1_8) rfl ?_
    show Steps p.tables e below (T11.setTop (mkF m 9 #[.val (.ref a1), .val (.int s1), .val (.long q1), .second] [(.long q1)])) _
    refine XS.lconst X11.here hx rfl (hb hby d1_9) ?_
    show Steps p.tables e below (T11.setTop (mkF m 10 #[.val (.ref a1), .val (.int s1), .val (.long q1), .second] [(.long (0 : Int64)), (.long q1)])) _
    refine XS.lcmp X11.here hx rfl (hb hby d1_10) rfl ?_
    show Steps p.tables e below (T11.setTop (mkF m 11 #[.val (.ref a1), .val (.int s1), .val (.long q1), .second] [(.int (lcmpW q1 (0 : Int64)))])) _
    refine XS.ifYes X11.here hx rfl (pc0 := 11) (pc' := 29) rfl (hb hby d1_11) rfl ((if0 _ _).trans (flt (fun q => hq ((lw_lt q1 (0 : Int64)).mp q))).2.1) (by decide) (by decide) ?_
    show Steps p.tables e below (T11.setTop (mkF m 29 #[.val (.ref a1), .val (.int s1), .val (.long q1), .second] [])) _
    refine XS.aloadN X11.here hx rfl (hb hby d1_29) rfl rfl ?_
    show Steps p.tables e below (T11.setTop (mkF m 30 #[.val (.ref a1), .val (.int s1), .val (.long q1), .second] [(.ref a1)])) _
    refine XS.iloadN X11.here hx rfl (hb hby d1_30) rfl ?_
    exact kt
  obtain ⟨T13, h13, X13, e13, W13, st13⟩ := putF X11 hx hZ hown (host := "") (Or.inl (hw _ (List.mem_of_getElem? (i := 16) rfl))) Via.refl e11 F8 F7 (Or.inr ⟨(hw _ (List.mem_of_getElem? (i := 17) rfl)), rfl, hnm⟩) (hw _ (List.mem_of_getElem? (i := 3) rfl)) (ty := .int) (by decide) rfl rfl (g := (mkF m 31 #[.val (.ref a1), .val (.int s1), .val (.long q1), .second] [(.int s1), (.ref a1)])) rfl rfl (hb hby d1_31)
  have z14 : n0 ≤ h13.size := Nat.le_trans Z0 (Keep.of_wr W13).1
  have N15 := Fr.snoc X13 N11 g_a1
  have Fw13 := F8.same W13
  have S16 : ∀ t, Steps p.tables e below (T13.setTop (mkF m 36 #[.val (.ref a1), .val (.int s1), .val (.long q1), .second] [(.long q1), (.ref a1)])) t → Steps p.tables e below (T13.setTop (mkF m 34 #[.val (.ref a1), .val (.int s1), .val (.long q1), .second] [])) t := by
    intro t kt
    show Steps p.tables e below (T13.setTop (mkF m 34 #[.val (.ref a1), .val (.int s1), .val (.long q1), .second] [])) _
    refine XS.aloadN X13.here hx rfl (hb hby d1_34) rfl rfl ?_
    show Steps p.tables e below (T13.setTop (mkF m 35 #[.val (.ref a1), .val (.int s1), .val (.long q1), .second] [(.ref a1)])) _
    refine XS.lloadN X13.here hx rfl (hb hby d1_35) rfl ?_
    exact kt
  have f17 := (F9.other W13 (Or.inr (slot_ne (Or.inr (hw _ (List.mem_of_getElem? (i := 19) rfl))) (Or.inr (hw _ (List.mem_of_getElem? (i := 17) rfl))) (by decide) (t := .long) (t' := .int) (by decide) (by decide))))
  have f18 := (F7.wr W13)
  obtain ⟨T19, h19, X19, e19, W19, st19⟩ := putF X13 hx hZ hown (host := "") (Or.inl (hw _ (List.mem_of_getElem? (i := 18) rfl))) Via.refl e13 f17 f18 (Or.inr ⟨(hw _ (List.mem_of_getElem? (i := 19) rfl)), rfl, hnm⟩) (hw _ (List.mem_of_getElem? (i := 3) rfl)) (ty := .long) (by decide) rfl rfl (g := (mkF m 36 #[.val (.ref a1), .val (.int s1), .val (.long q1), .second] [(.long q1), (.ref a1)])) rfl rfl (hb hby d1_36)
  have z20 : n0 ≤ h19.size := Nat.le_trans z14 (Keep.of_wr W19).1
  have N21 := Fr.snoc X19 N15 g_a1
  have Fw19 := f17.same W19
  have C22 : ∀ t, Steps p.tables e below (T19.setTop (mkF m 39 #[.val (.ref a1), .val (.int s1), .val (.long q1), .second] [])) t → Steps p.tables e below (s₁.setTop (mkF m 0 #[.val (.ref a1), .val (.int s1), .val (.long q1), .second] [])) t := (fun t k => (S10 t (st11.trans (S12 t (st13 t (S16 t (st19 t k)))))))
  obtain ⟨fs, hr, hrun, hended, hW, hsame⟩ := X19.leave (v := none) (fun _ => rfl)
  refine ⟨_, _, pre0 _ (C22 _ ?_), hrun, hended, _, _, rfl, ?_, ⟨_, rfl⟩, hW, hsame.mono (by decide) (by decide)⟩
  · exact X19.returnOut hx Bd.returns (hb hby d1_39) hr
  · show Q_rm1 Z a1 s1 q1 h0 n0 _ T19.heap _
    rw [e19]
    have f23 := (Fw13.other W19 (Or.inr (slot_ne (Or.inr (hw _ (List.mem_of_getElem? (i := 17) rfl))) (Or.inr (hw _ (List.mem_of_getElem? (i := 19) rfl))) (by decide) (t := .int) (t' := .long) (by decide) (by decide))))
    exact ⟨rfl, N21, (((Keep.refl h0 [a1]).wr W13 (Or.inl (List.mem_of_getElem? (i := 0) rfl))).wr W19 (Or.inl (List.mem_of_getElem? (i := 0) rfl))), f23, Fw19⟩
theorem ef_rm_e1 (m : MethodId) (x0 : Addr) (x1 : Addr) : entryFrame m #[(.ref x0), (.ref x1)] 3 = mkF m 0 #[.val (.ref x0), .val (.ref x1), .unset] [] := by first | (simp [entryFrame, mkF, argsToLocals, Value.category]; done) | rfl
def Q_rm_e1 (Z : State) (a1 : Addr) (h0 : Heap) (n0 : Nat) (v : Option Value) (h : Heap) (L : List Loc) : Prop := v = some (.int 1) ∧ Fr n0 L ∧ h = h0
set_option maxRecDepth 65536 in
set_option maxHeartbeats 40000000 in
theorem rm_e1 (l : Launch) (Z : State) (a0 : Array Value) (hw : ∀ d ∈ tables_1, d.before a0 Z = true) (ws : List Jvm.Cond) (a1 : Addr) (h0 : Heap) (n0 : Nat) (Z0 : n0 ≤ h0.size)  :
    MetFree l (⟨"com/example/totality/totality/core/Label", "equals", "(Ljava/lang/Object;)Z"⟩ : MethodName) (head1 (Jvm.Cond.code (⟨"com/example/totality/totality/core/Label", "equals", "(Ljava/lang/Object;)Z"⟩ : MethodName) prog_36_method_3_code 3 (some .boolean) :: ws) ({ frames := 0, cells := 0, slots := 0, locals := 0 } : Room)) (fun a U => a = #[(.ref a1), (.ref a1)] ∧ Z.Warmed39 U.vm ∧ U.heap = h0) (fun _ _ _ _ _ => True) (fun _ U o U' => ∃ v L, o = .returned v ∧ Q_rm_e1 Z a1 h0 n0 v U'.heap L ∧ FrameEnd U o U' L ({ frames := 0, cells := 0, slots := 0, locals := 0 } : Room).cells ({ frames := 0, cells := 0, slots := 0, locals := 0 } : Room).slots) := by
  refine MetFree.of_bodySF (plainFor_of_name pn_2) hisR ?_
  intro p e s m args below meth c s₁ Bd hml0 hP hK
  obtain ⟨rfl, hZ, hh⟩ := hP
  have hx := Bd.exec
  have hby := Bd.bytes
  have hml : c.maxLocals = 3 := hml0
  have hown : s.vm.findClass "com/example/totality/totality/core/Label" = some m.cls := findClass_of_methodNamed Bd.named
  have hnm := (name_of_methodNamed Bd.named Bd.method).1
  have X0 : Stand p l e ({ frames := 0, cells := 0, slots := 0, locals := 0 } : Room) s m #[(.ref a1), (.ref a1)] below meth c s₁ [] 0 0 := Stand.of_body Bd
  have e0 : s₁.heap = h0 := by rw [← hh, Bd.state]; rfl
  have N0 := Fr.nil n0
  have pre0 : ∀ t, Steps p.tables e below (s₁.setTop (mkF m 0 #[.val (.ref a1), .val (.ref a1), .unset] [])) t → Steps p.tables e below (s₁.setTop (entryFrame m #[(.ref a1), (.ref a1)] 3)) t := fun t k => castTop (ef_rm_e1 m a1 a1) k
  have S24 : ∀ t, Steps p.tables e below (s₁.setTop (mkF m 45 #[.val (.ref a1), .val (.ref a1), .unset] [(.int (1 : Int32))])) t → Steps p.tables e below (s₁.setTop (mkF m 0 #[.val (.ref a1), .val (.ref a1), .unset] [])) t := by
    intro t kt
    show Steps p.tables e below (s₁.setTop (mkF m 0 #[.val (.ref a1), .val (.ref a1), .unset] [])) _
    refine XS.aloadN X0.here hx rfl (hb hby d4_0) rfl rfl ?_
    show Steps p.tables e below (s₁.setTop (mkF m 1 #[.val (.ref a1), .val (.ref a1), .unset] [(.ref a1)])) _
    refine XS.aloadN X0.here hx rfl (hb hby d4_1) rfl rfl ?_
    show Steps p.tables e below (s₁.setTop (mkF m 2 #[.val (.ref a1), .val (.ref a1), .unset] [(.ref a1), (.ref a1)])) _
    refine Jvm.RoadKit.acmp (g := (mkF m 2 #[.val (.ref a1), .val (.ref a1), .unset] [(.ref a1), (.ref a1)])) X0 hx rfl rfl rfl (pc0 := 2) (pc' := 40) (same := true) rfl (hb hby d4_2) rfl (decide_eq_true rfl) (by decide) (by decide) ?_
    show Steps p.tables e below (s₁.setTop (mkF m 40 #[.val (.ref a1), .val (.ref a1), .unset] [])) _
    refine XS.iconst X0.here hx rfl (hb hby d4_40) ?_
    show Steps p.tables e below (s₁.setTop (mkF m 41 #[.val (.ref a1), .val (.ref a1), .unset] [(.int (1 : Int32))])) _
    refine XS.goto X0.here hx rfl (pc0 := 41) (pc' := 45) rfl (hb hby d4_41) (by decide) (by decide) ?_
    exact kt
  have C25 : ∀ t, Steps p.tables e below (s₁.setTop (mkF m 45 #[.val (.ref a1), .val (.ref a1), .unset] [(.int (1 : Int32))])) t → Steps p.tables e below (s₁.setTop (mkF m 0 #[.val (.ref a1), .val (.ref a1), .unset] [])) t := (fun t k => (S24 t k))
  obtain ⟨fs, hr, hrun, hended, hW, hsame⟩ := X0.leave (v := some (.int (1 : Int32))) (fun h => by rw [Bd.returns] at h; cases h)
  refine ⟨_, _, pre0 _ (C25 _ ?_), hrun, hended, _, _, rfl, ?_, ⟨_, rfl⟩, hW, hsame.mono (by decide) (by decide)⟩
  · exact retN X0 hx (t := .boolean) Bd.returns (by simp) (hb hby d4_45) hr
  · show Q_rm_e1 Z a1 h0 n0 _ s₁.heap _
    rw [e0]
    exact ⟨rfl, N0, rfl⟩
theorem ef_rm_e2 (m : MethodId) (x0 : Addr) (x1 : Addr) : entryFrame m #[(.ref x0), (.ref x1)] 3 = mkF m 0 #[.val (.ref x0), .val (.ref x1), .unset] [] := by first | (simp [entryFrame, mkF, argsToLocals, Value.category]; done) | rfl
def Q_rm_e2 (Z : State) (a1 : Addr) (b1 : Addr) (s1 : Int32) (q1 : Int64) (s2 : Int32) (q2 : Int64) (h0 : Heap) (n0 : Nat) (v : Option Value) (h : Heap) (L : List Loc) : Prop := v = some (.int (own_eq s1 s2 q1 q2)) ∧ Fr n0 L ∧ h = h0
set_option maxRecDepth 65536 in
set_option maxHeartbeats 40000000 in
theorem rm_e2 (l : Launch) (Z : State) (a0 : Array Value) (hw : ∀ d ∈ tables_1, d.before a0 Z = true) (ws : List Jvm.Cond) (a1 : Addr) (b1 : Addr) (s1 : Int32) (q1 : Int64) (s2 : Int32) (q2 : Int64) (h0 : Heap) (n0 : Nat) (Z0 : n0 ≤ h0.size) (F26 : Fld Z h0 a1 "com/example/totality/totality/core/Label" "sender" "I" (.int s1)) (F27 : Fld Z h0 a1 "com/example/totality/totality/core/Label" "sequence" "J" (.long q1)) (F28 : Exa Z h0 b1 "com/example/totality/totality/core/Label") (F29 : Fld Z h0 b1 "com/example/totality/totality/core/Label" "sender" "I" (.int s2)) (F30 : Fld Z h0 b1 "com/example/totality/totality/core/Label" "sequence" "J" (.long q2)) (ne_a1_b1 : a1 ≠ b1) :
    MetFree l (⟨"com/example/totality/totality/core/Label", "equals", "(Ljava/lang/Object;)Z"⟩ : MethodName) (head1 (Jvm.Cond.code (⟨"com/example/totality/totality/core/Label", "equals", "(Ljava/lang/Object;)Z"⟩ : MethodName) prog_36_method_3_code 3 (some .boolean) :: ws) ({ frames := 0, cells := 0, slots := 0, locals := 0 } : Room)) (fun a U => a = #[(.ref a1), (.ref b1)] ∧ Z.Warmed39 U.vm ∧ U.heap = h0) (fun _ _ _ _ _ => True) (fun _ U o U' => ∃ v L, o = .returned v ∧ Q_rm_e2 Z a1 b1 s1 q1 s2 q2 h0 n0 v U'.heap L ∧ FrameEnd U o U' L ({ frames := 0, cells := 0, slots := 0, locals := 0 } : Room).cells ({ frames := 0, cells := 0, slots := 0, locals := 0 } : Room).slots) := by
  refine MetFree.of_bodySF (plainFor_of_name pn_2) hisR ?_
  intro p e s m args below meth c s₁ Bd hml0 hP hK
  obtain ⟨rfl, hZ, hh⟩ := hP
  have hx := Bd.exec
  have hby := Bd.bytes
  have hml : c.maxLocals = 3 := hml0
  have hown : s.vm.findClass "com/example/totality/totality/core/Label" = some m.cls := findClass_of_methodNamed Bd.named
  have hnm := (name_of_methodNamed Bd.named Bd.method).1
  have X0 : Stand p l e ({ frames := 0, cells := 0, slots := 0, locals := 0 } : Room) s m #[(.ref a1), (.ref b1)] below meth c s₁ [] 0 0 := Stand.of_body Bd
  have e0 : s₁.heap = h0 := by rw [← hh, Bd.state]; rfl
  have N0 := Fr.nil n0
  have pre0 : ∀ t, Steps p.tables e below (s₁.setTop (mkF m 0 #[.val (.ref a1), .val (.ref b1), .unset] [])) t → Steps p.tables e below (s₁.setTop (entryFrame m #[(.ref a1), (.ref b1)] 3)) t := fun t k => castTop (ef_rm_e2 m a1 b1) k
  have S31 : ∀ t, Steps p.tables e below (s₁.setTop (mkF m 6 #[.val (.ref a1), .val (.ref b1), .unset] [(.ref b1)])) t → Steps p.tables e below (s₁.setTop (mkF m 0 #[.val (.ref a1), .val (.ref b1), .unset] [])) t := by
    intro t kt
    show Steps p.tables e below (s₁.setTop (mkF m 0 #[.val (.ref a1), .val (.ref b1), .unset] [])) _
    refine XS.aloadN X0.here hx rfl (hb hby d4_0) rfl rfl ?_
    show Steps p.tables e below (s₁.setTop (mkF m 1 #[.val (.ref a1), .val (.ref b1), .unset] [(.ref a1)])) _
    refine XS.aloadN X0.here hx rfl (hb hby d4_1) rfl rfl ?_
    show Steps p.tables e below (s₁.setTop (mkF m 2 #[.val (.ref a1), .val (.ref b1), .unset] [(.ref b1), (.ref a1)])) _
    refine Jvm.RoadKit.acmp (g := (mkF m 2 #[.val (.ref a1), .val (.ref b1), .unset] [(.ref b1), (.ref a1)])) X0 hx rfl rfl rfl (pc0 := 2) (pc' := 5) (same := false) rfl (hb hby d4_2) rfl (decide_eq_false fun q => ne_a1_b1 (Value.ref.inj q)) (by decide) (by decide) ?_
    show Steps p.tables e below (s₁.setTop (mkF m 5 #[.val (.ref a1), .val (.ref b1), .unset] [])) _
    refine XS.aloadN X0.here hx rfl (hb hby d4_5) rfl rfl ?_
    exact kt
  obtain ⟨T32, X32, e32, st32⟩ := instY X0 hx hZ hown (hw _ (List.mem_of_getElem? (i := 25) rfl)) e0 (Ins.self F28) (g := (mkF m 6 #[.val (.ref a1), .val (.ref b1), .unset] [(.ref b1)])) rfl rfl (hb hby d4_6)
  have S33 : ∀ t, Steps p.tables e below (T32.setTop (mkF m 13 #[.val (.ref a1), .val (.ref b1), .unset] [(.ref b1)])) t → Steps p.tables e below (T32.setTop (mkF m 9 #[.val (.ref a1), .val (.ref b1), .unset] [(.int (1 : Int32))])) t := by
    intro t kt
    show Steps p.tables e below (T32.setTop (mkF m 9 #[.val (.ref a1), .val (.ref b1), .unset] [(.int (1 : Int32))])) _
    refine XS.ifNo X32.here hx rfl (hb hby d4_9) rfl ((if0 _ _).trans (feq (by decide)).1) ?_
    show Steps p.tables e below (T32.setTop (mkF m 12 #[.val (.ref a1), .val (.ref b1), .unset] [])) _
    refine XS.aloadN X32.here hx rfl (hb hby d4_12) rfl rfl ?_
    exact kt
  obtain ⟨T34, X34, e34, st34⟩ := castY X32 hx hZ hown (hw _ (List.mem_of_getElem? (i := 25) rfl)) e32 (Ins.self F28) (g := (mkF m 13 #[.val (.ref a1), .val (.ref b1), .unset] [(.ref b1)])) rfl rfl (hb hby d4_13)
  have S35 : ∀ t, Steps p.tables e below (T34.setTop (mkF m 18 #[.val (.ref a1), .val (.ref b1), .val (.ref b1)] [(.ref a1)])) t → Steps p.tables e below (T34.setTop (mkF m 16 #[.val (.ref a1), .val (.ref b1), .unset] [(.ref b1)])) t := by
    intro t kt
    show Steps p.tables e below (T34.setTop (mkF m 16 #[.val (.ref a1), .val (.ref b1), .unset] [(.ref b1)])) _
    refine XS.astoreN X34.here hx rfl (hb hby d4_16) rfl rfl (l' := #[.val (.ref a1), .val (.ref b1), .val (.ref b1)]) rfl ?_
    show Steps p.tables e below (T34.setTop (mkF m 17 #[.val (.ref a1), .val (.ref b1), .val (.ref b1)] [])) _
    refine XS.aloadN X34.here hx rfl (hb hby d4_17) rfl rfl ?_
    exact kt
  obtain ⟨T36, X36, e36, st36⟩ := getF X34 hx hZ hown (host := "") (Or.inl (hw _ (List.mem_of_getElem? (i := 16) rfl))) Via.refl e34 F26 (g := (mkF m 18 #[.val (.ref a1), .val (.ref b1), .val (.ref b1)] [(.ref a1)])) rfl rfl (hb hby d4_18)
  have S37 : ∀ t, Steps p.tables e below (T36.setTop (mkF m 22 #[.val (.ref a1), .val (.ref b1), .val (.ref b1)] [(.ref b1), (.int s1)])) t → Steps p.tables e below (T36.setTop (mkF m 21 #[.val (.ref a1), .val (.ref b1), .val (.ref b1)] [(.int s1)])) t := by
    intro t kt
    show Steps p.tables e below (T36.setTop (mkF m 21 #[.val (.ref a1), .val (.ref b1), .val (.ref b1)] [(.int s1)])) _
    refine XS.aloadN X36.here hx rfl (hb hby d4_21) rfl rfl ?_
    exact kt
  obtain ⟨T38, X38, e38, st38⟩ := getF X36 hx hZ hown (host := "") (Or.inl (hw _ (List.mem_of_getElem? (i := 16) rfl))) Via.refl e36 F29 (g := (mkF m 22 #[.val (.ref a1), .val (.ref b1), .val (.ref b1)] [(.ref b1), (.int s1)])) rfl rfl (hb hby d4_22)
  by_cases hc39 : s1 = s2
  · have S40 : ∀ t, Steps p.tables e below (T38.setTop (mkF m 29 #[.val (.ref a1), .val (.ref b1), .val (.ref b1)] [(.ref a1)])) t → Steps p.tables e below (T38.setTop (mkF m 25 #[.val (.ref a1), .val (.ref b1), .val (.ref b1)] [(.int s2), (.int s1)])) t := by
      intro t kt
      show Steps p.tables e below (T38.setTop (mkF m 25 #[.val (.ref a1), .val (.ref b1), .val (.ref b1)] [(.int s2), (.int s1)])) _
      refine XS.icmpNo X38.here hx rfl (hb hby d4_25) rfl (teq hc39).2 ?_
      show Steps p.tables e below (T38.setTop (mkF m 28 #[.val (.ref a1), .val (.ref b1), .val (.ref b1)] [])) _
      refine XS.aloadN X38.here hx rfl (hb hby d4_28) rfl rfl ?_
      exact kt
    obtain ⟨T41, X41, e41, st41⟩ := getF X38 hx hZ hown (host := "") (Or.inl (hw _ (List.mem_of_getElem? (i := 18) rfl))) Via.refl e38 F27 (g := (mkF m 29 #[.val (.ref a1), .val (.ref b1), .val (.ref b1)] [(.ref a1)])) rfl rfl (hb hby d4_29)
    have S42 : ∀ t, Steps p.tables e below (T41.setTop (mkF m 33 #[.val (.ref a1), .val (.ref b1), .val (.ref b1)] [(.ref b1), (.long q1)])) t → Steps p.tables e below (T41.setTop (mkF m 32 #[.val (.ref a1), .val (.ref b1), .val (.ref b1)] [(.long q1)])) t := by
      intro t kt
      show Steps p.tables e below (T41.setTop (mkF m 32 #[.val (.ref a1), .val (.ref b1), .val (.ref b1)] [(.long q1)])) _
      refine XS.aloadN X41.here hx rfl (hb hby d4_32) rfl rfl ?_
      exact kt
    obtain ⟨T43, X43, e43, st43⟩ := getF X41 hx hZ hown (host := "") (Or.inl (hw _ (List.mem_of_getElem? (i := 18) rfl))) Via.refl e41 F30 (g := (mkF m 33 #[.val (.ref a1), .val (.ref b1), .val (.ref b1)] [(.ref b1), (.long q1)])) rfl rfl (hb hby d4_33)
    have S44 : ∀ t, Steps p.tables e below (T43.setTop (mkF m 37 #[.val (.ref a1), .val (.ref b1), .val (.ref b1)] [(.int (lcmpW q1 q2))])) t → Steps p.tables e below (T43.setTop (mkF m 36 #[.val (.ref a1), .val (.ref b1), .val (.ref b1)] [(.long q2), (.long q1)])) t := by
      intro t kt
      show Steps p.tables e below (T43.setTop (mkF m 36 #[.val (.ref a1), .val (.ref b1), .val (.ref b1)] [(.long q2), (.long q1)])) _
      refine XS.lcmp X43.here hx rfl (hb hby d4_36) rfl ?_
      exact kt
    by_cases hc45 : q1 = q2
    · have S46 : ∀ t, Steps p.tables e below (T43.setTop (mkF m 45 #[.val (.ref a1), .val (.ref b1), .val (.ref b1)] [(.int (1 : Int32))])) t → Steps p.tables e below (T43.setTop (mkF m 37 #[.val (.ref a1), .val (.ref b1), .val (.ref b1)] [(.int (lcmpW q1 q2))])) t := by
        intro t kt
        show Steps p.tables e below (T43.setTop (mkF m 37 #[.val (.ref a1), .val (.ref b1), .val (.ref b1)] [(.int (lcmpW q1 q2))])) _
        refine XS.ifNo X43.here hx rfl (hb hby d4_37) rfl ((if0 _ _).trans (teq ((lw_eq q1 q2).mpr hc45)).2) ?_
        show Steps p.tables e below (T43.setTop (mkF m 40 #[.val (.ref a1), .val (.ref b1), .val (.ref b1)] [])) _
        refine XS.iconst X43.here hx rfl (hb hby d4_40) ?_
        show Steps p.tables e below (T43.setTop (mkF m 41 #[.val (.ref a1), .val (.ref b1), .val (.ref b1)] [(.int (1 : Int32))])) _
        refine XS.goto X43.here hx rfl (pc0 := 41) (pc' := 45) rfl (hb hby d4_41) (by decide) (by decide) ?_
        exact kt
      have C47 : ∀ t, Steps p.tables e below (T43.setTop (mkF m 45 #[.val (.ref a1), .val (.ref b1), .val (.ref b1)] [(.int (1 : Int32))])) t → Steps p.tables e below (s₁.setTop (mkF m 0 #[.val (.ref a1), .val (.ref b1), .unset] [])) t := (fun t k => (S31 t (st32 t (S33 t (st34 t (S35 t (st36 t (S37 t (st38 t (S40 t (st41 t (S42 t (st43 t (S44 t (S46 t k)))))))))))))))
      obtain ⟨fs, hr, hrun, hended, hW, hsame⟩ := X43.leave (v := some (.int (1 : Int32))) (fun h => by rw [Bd.returns] at h; cases h)
      refine ⟨_, _, pre0 _ (C47 _ ?_), hrun, hended, _, _, rfl, ?_, ⟨_, rfl⟩, hW, hsame.mono (by decide) (by decide)⟩
      · exact retN X43 hx (t := .boolean) Bd.returns (by simp) (hb hby d4_45) hr
      · show Q_rm_e2 Z a1 b1 s1 q1 s2 q2 h0 n0 _ T43.heap _
        rw [e43]
        exact ⟨by simp only [own_eq, if_pos hc39, if_pos hc45] <;> rfl, N0, rfl⟩
    · have S48 : ∀ t, Steps p.tables e below (T43.setTop (mkF m 45 #[.val (.ref a1), .val (.ref b1), .val (.ref b1)] [(.int (0 : Int32))])) t → Steps p.tables e below (T43.setTop (mkF m 37 #[.val (.ref a1), .val (.ref b1), .val (.ref b1)] [(.int (lcmpW q1 q2))])) t := by
        intro t kt
        show Steps p.tables e below (T43.setTop (mkF m 37 #[.val (.ref a1), .val (.ref b1), .val (.ref b1)] [(.int (lcmpW q1 q2))])) _
        refine XS.ifYes X43.here hx rfl (pc0 := 37) (pc' := 44) rfl (hb hby d4_37) rfl ((if0 _ _).trans (feq (fun q => hc45 ((lw_eq q1 q2).mp q))).2) (by decide) (by decide) ?_
        show Steps p.tables e below (T43.setTop (mkF m 44 #[.val (.ref a1), .val (.ref b1), .val (.ref b1)] [])) _
        refine XS.iconst X43.here hx rfl (hb hby d4_44) ?_
        exact kt
      have C49 : ∀ t, Steps p.tables e below (T43.setTop (mkF m 45 #[.val (.ref a1), .val (.ref b1), .val (.ref b1)] [(.int (0 : Int32))])) t → Steps p.tables e below (s₁.setTop (mkF m 0 #[.val (.ref a1), .val (.ref b1), .unset] [])) t := (fun t k => (S31 t (st32 t (S33 t (st34 t (S35 t (st36 t (S37 t (st38 t (S40 t (st41 t (S42 t (st43 t (S44 t (S48 t k)))))))))))))))
      obtain ⟨fs, hr, hrun, hended, hW, hsame⟩ := X43.leave (v := some (.int (0 : Int32))) (fun h => by rw [Bd.returns] at h; cases h)
      refine ⟨_, _, pre0 _ (C49 _ ?_), hrun, hended, _, _, rfl, ?_, ⟨_, rfl⟩, hW, hsame.mono (by decide) (by decide)⟩
      · exact retN X43 hx (t := .boolean) Bd.returns (by simp) (hb hby d4_45) hr
      · show Q_rm_e2 Z a1 b1 s1 q1 s2 q2 h0 n0 _ T43.heap _
        rw [e43]
        exact ⟨by simp only [own_eq, if_pos hc39, if_neg hc45] <;> rfl, N0, rfl⟩
  · have S50 : ∀ t, Steps p.tables e below (T38.setTop (mkF m 45 #[.val (.ref a1), .val (.ref b1), .val (.ref b1)] [(.int (0 : Int32))])) t → Steps p.tables e below (T38.setTop (mkF m 25 #[.val (.ref a1), .val (.ref b1), .val (.ref b1)] [(.int s2), (.int s1)])) t := by
      intro t kt
      show Steps p.tables e below (T38.setTop (mkF m 25 #[.val (.ref a1), .val (.ref b1), .val (.ref b1)] [(.int s2), (.int s1)])) _
      refine XS.icmpYes X38.here hx rfl (pc0 := 25) (pc' := 44) rfl (hb hby d4_25) rfl (feq hc39).2 (by decide) (by decide) ?_
      show Steps p.tables e below (T38.setTop (mkF m 44 #[.val (.ref a1), .val (.ref b1), .val (.ref b1)] [])) _
      refine XS.iconst X38.here hx rfl (hb hby d4_44) ?_
      exact kt
    have C51 : ∀ t, Steps p.tables e below (T38.setTop (mkF m 45 #[.val (.ref a1), .val (.ref b1), .val (.ref b1)] [(.int (0 : Int32))])) t → Steps p.tables e below (s₁.setTop (mkF m 0 #[.val (.ref a1), .val (.ref b1), .unset] [])) t := (fun t k => (S31 t (st32 t (S33 t (st34 t (S35 t (st36 t (S37 t (st38 t (S50 t k))))))))))
    obtain ⟨fs, hr, hrun, hended, hW, hsame⟩ := X38.leave (v := some (.int (0 : Int32))) (fun h => by rw [Bd.returns] at h; cases h)
    refine ⟨_, _, pre0 _ (C51 _ ?_), hrun, hended, _, _, rfl, ?_, ⟨_, rfl⟩, hW, hsame.mono (by decide) (by decide)⟩
    · exact retN X38 hx (t := .boolean) Bd.returns (by simp) (hb hby d4_45) hr
    · show Q_rm_e2 Z a1 b1 s1 q1 s2 q2 h0 n0 _ T38.heap _
      rw [e38]
      exact ⟨by simp only [own_eq, if_neg hc39] <;> rfl, N0, rfl⟩
theorem ef_rm_e3 (m : MethodId) (x0 : Addr) : entryFrame m #[(.ref x0), .null] 3 = mkF m 0 #[.val (.ref x0), .val .null, .unset] [] := by first | (simp [entryFrame, mkF, argsToLocals, Value.category]; done) | rfl
def Q_rm_e3 (Z : State) (a1 : Addr) (h0 : Heap) (n0 : Nat) (v : Option Value) (h : Heap) (L : List Loc) : Prop := v = some (.int 0) ∧ Fr n0 L ∧ h = h0
set_option maxRecDepth 65536 in
set_option maxHeartbeats 40000000 in
theorem rm_e3 (l : Launch) (Z : State) (a0 : Array Value) (hw : ∀ d ∈ tables_1, d.before a0 Z = true) (ws : List Jvm.Cond) (a1 : Addr) (h0 : Heap) (n0 : Nat) (Z0 : n0 ≤ h0.size)  :
    MetFree l (⟨"com/example/totality/totality/core/Label", "equals", "(Ljava/lang/Object;)Z"⟩ : MethodName) (head1 (Jvm.Cond.code (⟨"com/example/totality/totality/core/Label", "equals", "(Ljava/lang/Object;)Z"⟩ : MethodName) prog_36_method_3_code 3 (some .boolean) :: ws) ({ frames := 0, cells := 0, slots := 0, locals := 0 } : Room)) (fun a U => a = #[(.ref a1), .null] ∧ Z.Warmed39 U.vm ∧ U.heap = h0) (fun _ _ _ _ _ => True) (fun _ U o U' => ∃ v L, o = .returned v ∧ Q_rm_e3 Z a1 h0 n0 v U'.heap L ∧ FrameEnd U o U' L ({ frames := 0, cells := 0, slots := 0, locals := 0 } : Room).cells ({ frames := 0, cells := 0, slots := 0, locals := 0 } : Room).slots) := by
  refine MetFree.of_bodySF (plainFor_of_name pn_2) hisR ?_
  intro p e s m args below meth c s₁ Bd hml0 hP hK
  obtain ⟨rfl, hZ, hh⟩ := hP
  have hx := Bd.exec
  have hby := Bd.bytes
  have hml : c.maxLocals = 3 := hml0
  have hown : s.vm.findClass "com/example/totality/totality/core/Label" = some m.cls := findClass_of_methodNamed Bd.named
  have hnm := (name_of_methodNamed Bd.named Bd.method).1
  have X0 : Stand p l e ({ frames := 0, cells := 0, slots := 0, locals := 0 } : Room) s m #[(.ref a1), .null] below meth c s₁ [] 0 0 := Stand.of_body Bd
  have e0 : s₁.heap = h0 := by rw [← hh, Bd.state]; rfl
  have N0 := Fr.nil n0
  have pre0 : ∀ t, Steps p.tables e below (s₁.setTop (mkF m 0 #[.val (.ref a1), .val .null, .unset] [])) t → Steps p.tables e below (s₁.setTop (entryFrame m #[(.ref a1), .null] 3)) t := fun t k => castTop (ef_rm_e3 m a1) k
  have S52 : ∀ t, Steps p.tables e below (s₁.setTop (mkF m 45 #[.val (.ref a1), .val .null, .unset] [(.int (0 : Int32))])) t → Steps p.tables e below (s₁.setTop (mkF m 0 #[.val (.ref a1), .val .null, .unset] [])) t := by
    intro t kt
    show Steps p.tables e below (s₁.setTop (mkF m 0 #[.val (.ref a1), .val .null, .unset] [])) _
    refine XS.aloadN X0.here hx rfl (hb hby d4_0) rfl rfl ?_
    show Steps p.tables e below (s₁.setTop (mkF m 1 #[.val (.ref a1), .val .null, .unset] [(.ref a1)])) _
    refine XS.aloadN X0.here hx rfl (hb hby d4_1) rfl rfl ?_
    show Steps p.tables e below (s₁.setTop (mkF m 2 #[.val (.ref a1), .val .null, .unset] [.null, (.ref a1)])) _
    refine Jvm.RoadKit.acmp (g := (mkF m 2 #[.val (.ref a1), .val .null, .unset] [.null, (.ref a1)])) X0 hx rfl rfl rfl (pc0 := 2) (pc' := 5) (same := false) rfl (hb hby d4_2) rfl (decide_eq_false nofun) (by decide) (by decide) ?_
    show Steps p.tables e below (s₁.setTop (mkF m 5 #[.val (.ref a1), .val .null, .unset] [])) _
    refine XS.aloadN X0.here hx rfl (hb hby d4_5) rfl rfl ?_
    show Steps p.tables e below (s₁.setTop (mkF m 6 #[.val (.ref a1), .val .null, .unset] [.null])) _
    refine X0.instanceofNull hx (g := (mkF m 6 #[.val (.ref a1), .val .null, .unset] [.null])) rfl rfl (hb hby d4_6) _ ?_
    show Steps p.tables e below (s₁.setTop (mkF m 9 #[.val (.ref a1), .val .null, .unset] [(.int (0 : Int32))])) _
    refine XS.ifYes X0.here hx rfl (pc0 := 9) (pc' := 44) rfl (hb hby d4_9) rfl ((if0 _ _).trans (teq rfl).1) (by decide) (by decide) ?_
    show Steps p.tables e below (s₁.setTop (mkF m 44 #[.val (.ref a1), .val .null, .unset] [])) _
    refine XS.iconst X0.here hx rfl (hb hby d4_44) ?_
    exact kt
  have C53 : ∀ t, Steps p.tables e below (s₁.setTop (mkF m 45 #[.val (.ref a1), .val .null, .unset] [(.int (0 : Int32))])) t → Steps p.tables e below (s₁.setTop (mkF m 0 #[.val (.ref a1), .val .null, .unset] [])) t := (fun t k => (S52 t k))
  obtain ⟨fs, hr, hrun, hended, hW, hsame⟩ := X0.leave (v := some (.int (0 : Int32))) (fun h => by rw [Bd.returns] at h; cases h)
  refine ⟨_, _, pre0 _ (C53 _ ?_), hrun, hended, _, _, rfl, ?_, ⟨_, rfl⟩, hW, hsame.mono (by decide) (by decide)⟩
  · exact retN X0 hx (t := .boolean) Bd.returns (by simp) (hb hby d4_45) hr
  · show Q_rm_e3 Z a1 h0 n0 _ s₁.heap _
    rw [e0]
    exact ⟨rfl, N0, rfl⟩
theorem ef_rm_e4 (m : MethodId) (x0 : Addr) (x1 : Addr) : entryFrame m #[(.ref x0), (.ref x1)] 3 = mkF m 0 #[.val (.ref x0), .val (.ref x1), .unset] [] := by first | (simp [entryFrame, mkF, argsToLocals, Value.category]; done) | rfl
def Q_rm_e4 (Z : State) (a1 : Addr) (b1 : Addr) (h0 : Heap) (n0 : Nat) (v : Option Value) (h : Heap) (L : List Loc) : Prop := v = some (.int 0) ∧ Fr n0 L ∧ h = h0
set_option maxRecDepth 65536 in
set_option maxHeartbeats 40000000 in
theorem rm_e4 (l : Launch) (Z : State) (a0 : Array Value) (hw : ∀ d ∈ tables_1, d.before a0 Z = true) (ws : List Jvm.Cond) (a1 : Addr) (b1 : Addr) (h0 : Heap) (n0 : Nat) (Z0 : n0 ≤ h0.size) (F54 : Exa Z h0 b1 "java/lang/Integer") (ne_a1_b1 : a1 ≠ b1) (hno : ∃ c t, Z.vm.findClass "java/lang/Integer" = some c ∧ Z.vm.findClass "com/example/totality/totality/core/Label" = some t ∧ Z.vm.assignable c t = false) :
    MetFree l (⟨"com/example/totality/totality/core/Label", "equals", "(Ljava/lang/Object;)Z"⟩ : MethodName) (head1 (Jvm.Cond.code (⟨"com/example/totality/totality/core/Label", "equals", "(Ljava/lang/Object;)Z"⟩ : MethodName) prog_36_method_3_code 3 (some .boolean) :: ws) ({ frames := 0, cells := 0, slots := 0, locals := 0 } : Room)) (fun a U => a = #[(.ref a1), (.ref b1)] ∧ Z.Warmed39 U.vm ∧ U.heap = h0) (fun _ _ _ _ _ => True) (fun _ U o U' => ∃ v L, o = .returned v ∧ Q_rm_e4 Z a1 b1 h0 n0 v U'.heap L ∧ FrameEnd U o U' L ({ frames := 0, cells := 0, slots := 0, locals := 0 } : Room).cells ({ frames := 0, cells := 0, slots := 0, locals := 0 } : Room).slots) := by
  refine MetFree.of_bodySF (plainFor_of_name pn_2) hisR ?_
  intro p e s m args below meth c s₁ Bd hml0 hP hK
  obtain ⟨rfl, hZ, hh⟩ := hP
  have hx := Bd.exec
  have hby := Bd.bytes
  have hml : c.maxLocals = 3 := hml0
  have hown : s.vm.findClass "com/example/totality/totality/core/Label" = some m.cls := findClass_of_methodNamed Bd.named
  have hnm := (name_of_methodNamed Bd.named Bd.method).1
  have X0 : Stand p l e ({ frames := 0, cells := 0, slots := 0, locals := 0 } : Room) s m #[(.ref a1), (.ref b1)] below meth c s₁ [] 0 0 := Stand.of_body Bd
  have e0 : s₁.heap = h0 := by rw [← hh, Bd.state]; rfl
  have N0 := Fr.nil n0
  have pre0 : ∀ t, Steps p.tables e below (s₁.setTop (mkF m 0 #[.val (.ref a1), .val (.ref b1), .unset] [])) t → Steps p.tables e below (s₁.setTop (entryFrame m #[(.ref a1), (.ref b1)] 3)) t := fun t k => castTop (ef_rm_e4 m a1 b1) k
  have S55 : ∀ t, Steps p.tables e below (s₁.setTop (mkF m 6 #[.val (.ref a1), .val (.ref b1), .unset] [(.ref b1)])) t → Steps p.tables e below (s₁.setTop (mkF m 0 #[.val (.ref a1), .val (.ref b1), .unset] [])) t := by
    intro t kt
    show Steps p.tables e below (s₁.setTop (mkF m 0 #[.val (.ref a1), .val (.ref b1), .unset] [])) _
    refine XS.aloadN X0.here hx rfl (hb hby d4_0) rfl rfl ?_
    show Steps p.tables e below (s₁.setTop (mkF m 1 #[.val (.ref a1), .val (.ref b1), .unset] [(.ref a1)])) _
    refine XS.aloadN X0.here hx rfl (hb hby d4_1) rfl rfl ?_
    show Steps p.tables e below (s₁.setTop (mkF m 2 #[.val (.ref a1), .val (.ref b1), .unset] [(.ref b1), (.ref a1)])) _
    refine Jvm.RoadKit.acmp (g := (mkF m 2 #[.val (.ref a1), .val (.ref b1), .unset] [(.ref b1), (.ref a1)])) X0 hx rfl rfl rfl (pc0 := 2) (pc' := 5) (same := false) rfl (hb hby d4_2) rfl (decide_eq_false fun q => ne_a1_b1 (Value.ref.inj q)) (by decide) (by decide) ?_
    show Steps p.tables e below (s₁.setTop (mkF m 5 #[.val (.ref a1), .val (.ref b1), .unset] [])) _
    refine XS.aloadN X0.here hx rfl (hb hby d4_5) rfl rfl ?_
    exact kt
  obtain ⟨T56, X56, e56, st56⟩ := instNo X0 hx hZ hown (hw _ (List.mem_of_getElem? (i := 25) rfl)) e0 F54 hno (g := (mkF m 6 #[.val (.ref a1), .val (.ref b1), .unset] [(.ref b1)])) rfl rfl (hb hby d4_6)
  have S57 : ∀ t, Steps p.tables e below (T56.setTop (mkF m 45 #[.val (.ref a1), .val (.ref b1), .unset] [(.int (0 : Int32))])) t → Steps p.tables e below (T56.setTop (mkF m 9 #[.val (.ref a1), .val (.ref b1), .unset] [(.int (0 : Int32))])) t := by
    intro t kt
    show Steps p.tables e below (T56.setTop (mkF m 9 #[.val (.ref a1), .val (.ref b1), .unset] [(.int (0 : Int32))])) _
    refine XS.ifYes X56.here hx rfl (pc0 := 9) (pc' := 44) rfl (hb hby d4_9) rfl ((if0 _ _).trans (teq rfl).1) (by decide) (by decide) ?_
    show Steps p.tables e below (T56.setTop (mkF m 44 #[.val (.ref a1), .val (.ref b1), .unset] [])) _
    refine XS.iconst X56.here hx rfl (hb hby d4_44) ?_
    exact kt
  have C58 : ∀ t, Steps p.tables e below (T56.setTop (mkF m 45 #[.val (.ref a1), .val (.ref b1), .unset] [(.int (0 : Int32))])) t → Steps p.tables e below (s₁.setTop (mkF m 0 #[.val (.ref a1), .val (.ref b1), .unset] [])) t := (fun t k => (S55 t (st56 t (S57 t k))))
  obtain ⟨fs, hr, hrun, hended, hW, hsame⟩ := X56.leave (v := some (.int (0 : Int32))) (fun h => by rw [Bd.returns] at h; cases h)
  refine ⟨_, _, pre0 _ (C58 _ ?_), hrun, hended, _, _, rfl, ?_, ⟨_, rfl⟩, hW, hsame.mono (by decide) (by decide)⟩
  · exact retN X56 hx (t := .boolean) Bd.returns (by simp) (hb hby d4_45) hr
  · show Q_rm_e4 Z a1 b1 h0 n0 _ T56.heap _
    rw [e56]
    exact ⟨rfl, N0, rfl⟩
theorem ef_rm6 (m : MethodId) (x0 : Addr) (x1 : Int32) : entryFrame m #[(.ref x0), (.int x1)] 2 = mkF m 0 #[.val (.ref x0), .val (.int x1)] [] := by first | (simp [entryFrame, mkF, argsToLocals, Value.category]; done) | rfl
def Q_rm6 (Z : State) (a1 : Addr) (p1 : Int32) (h0 : Heap) (n0 : Nat) (v : Option Value) (h : Heap) (L : List Loc) : Prop := v = none ∧ Fr n0 L ∧ Keep h0 h [a1]
set_option maxRecDepth 65536 in
set_option maxHeartbeats 40000000 in
theorem rm6 (l : Launch) (Z : State) (a0 : Array Value) (hw : ∀ d ∈ tables_1, d.before a0 Z = true) (ws : List Jvm.Cond) (a1 : Addr) (p1 : Int32) (h0 : Heap) (n0 : Nat) (Z0 : n0 ≤ h0.size) (F59 : Exa Z h0 a1 "java/lang/Integer") (F60 : Fld Z h0 a1 "java/lang/Integer" "value" "I" (.int (0 : Int32))) (g_a1 : n0 ≤ a1) :
    MetFree l (⟨"java/lang/Integer", "<init>", "(I)V"⟩ : MethodName) (head1 (Jvm.Cond.code (⟨"java/lang/Integer", "<init>", "(I)V"⟩ : MethodName) jdk_33_method_23_code 2 none :: ws) ({ frames := 2, cells := 0, slots := 0, locals := 24 } : Room)) (fun a U => a = #[(.ref a1), (.int p1)] ∧ Z.Warmed39 U.vm ∧ U.heap = h0) (fun _ _ _ _ _ => True) (fun _ U o U' => ∃ v L, o = .returned v ∧ Q_rm6 Z a1 p1 h0 n0 v U'.heap L ∧ FrameEnd U o U' L ({ frames := 2, cells := 0, slots := 0, locals := 24 } : Room).cells ({ frames := 2, cells := 0, slots := 0, locals := 24 } : Room).slots) := by
  refine MetFree.of_bodySF (plainFor_of_name pn_3) hisR ?_
  intro p e s m args below meth c s₁ Bd hml0 hP hK
  obtain ⟨rfl, hZ, hh⟩ := hP
  have hx := Bd.exec
  have hby := Bd.bytes
  have hml : c.maxLocals = 2 := hml0
  have hown : s.vm.findClass "java/lang/Integer" = some m.cls := findClass_of_methodNamed Bd.named
  have hnm := (name_of_methodNamed Bd.named Bd.method).1
  have X0 : Stand p l e ({ frames := 2, cells := 0, slots := 0, locals := 24 } : Room) s m #[(.ref a1), (.int p1)] below meth c s₁ [] 0 0 := Stand.of_body Bd
  have e0 : s₁.heap = h0 := by rw [← hh, Bd.state]; rfl
  have N0 := Fr.nil n0
  have pre0 : ∀ t, Steps p.tables e below (s₁.setTop (mkF m 0 #[.val (.ref a1), .val (.int p1)] [])) t → Steps p.tables e below (s₁.setTop (entryFrame m #[(.ref a1), (.int p1)] 2)) t := fun t k => castTop (ef_rm6 m a1 p1) k
  have S61 : ∀ t, Steps p.tables e below (s₁.setTop (mkF m 1 #[.val (.ref a1), .val (.int p1)] [(.ref a1)])) t → Steps p.tables e below (s₁.setTop (mkF m 0 #[.val (.ref a1), .val (.int p1)] [])) t := by
    intro t kt
    show Steps p.tables e below (s₁.setTop (mkF m 0 #[.val (.ref a1), .val (.int p1)] [])) _
    refine XS.aloadN X0.here hx rfl (hb hby d6_0) rfl rfl ?_
    exact kt
  obtain ⟨_, _, ⟨T62, L62, k62, n62⟩, -, X62, ⟨Lc62, hQ62, l62, y62, z62⟩, st62⟩ := X0.specialBack hx (y := (⟨"java/lang/Number", "<init>", "()V"⟩ : MethodName)) rfl hown (mvT hZ (hw _ (List.mem_of_getElem? (i := 43) rfl))) (mvT hZ (hw _ (List.mem_of_getElem? (i := 44) rfl))) (mvT hZ (hw _ (List.mem_of_getElem? (i := 48) rfl))) (by decide) (backOf (W := 0) (rm7 l Z a0 hw [] a1 h0 n0 Z0 ) hZ (hw _ (List.mem_of_getElem? (i := 48) rfl)) (hw _ (List.mem_of_getElem? (i := 47) rfl)) (by decide) (by decide)) (g := (mkF m 1 #[.val (.ref a1), .val (.int p1)] [(.ref a1)])) rfl (by rw [hml]; rfl) (Steps.refl _) (a := a1) (argsL := []) (rest := []) (lenOf pd_0 rfl) rfl (by show 2 * 0 + _ ≤ _; exact Nat.le_of_eq rfl) (hb hby d6_1) (fun _ _ => ⟨rfl, e0, (by decide : 0 + 0 ≤ _), (by decide : 0 + 0 ≤ _)⟩)
  dsimp only [Pt.U, Pt.locs, Pt.cells, Pt.slots] at X62 l62 y62 z62 st62 hQ62
  subst l62 y62 z62
  obtain ⟨rfl, N62q, e62⟩ := hQ62
  have N62 := Fr.app N0 N62q
  have S63 : ∀ t, Steps p.tables e below (T62.setTop (mkF m 6 #[.val (.ref a1), .val (.int p1)] [(.int p1), (.ref a1)])) t → Steps p.tables e below (T62.setTop (mkF m 4 #[.val (.ref a1), .val (.int p1)] [])) t := by
    intro t kt
    show Steps p.tables e below (T62.setTop (mkF m 4 #[.val (.ref a1), .val (.int p1)] [])) _
    refine XS.aloadN X62.here hx rfl (hb hby d6_4) rfl rfl ?_
    show Steps p.tables e below (T62.setTop (mkF m 5 #[.val (.ref a1), .val (.int p1)] [(.ref a1)])) _
    refine XS.iloadN X62.here hx rfl (hb hby d6_5) rfl ?_
    exact kt
  obtain ⟨T64, h64, X64, e64, W64, st64⟩ := putF X62 hx hZ hown (host := "") (Or.inl (hw _ (List.mem_of_getElem? (i := 50) rfl))) Via.refl e62 F60 F59 (Or.inr ⟨(hw _ (List.mem_of_getElem? (i := 51) rfl)), rfl, hnm⟩) (hw _ (List.mem_of_getElem? (i := 38) rfl)) (ty := .int) (by decide) rfl rfl (g := (mkF m 6 #[.val (.ref a1), .val (.int p1)] [(.int p1), (.ref a1)])) rfl rfl (hb hby d6_6)
  have z65 : n0 ≤ h64.size := Nat.le_trans Z0 (Keep.of_wr W64).1
  have N66 := Fr.snoc X64 N62 g_a1
  have Fw64 := F60.same W64
  have C67 : ∀ t, Steps p.tables e below (T64.setTop (mkF m 9 #[.val (.ref a1), .val (.int p1)] [])) t → Steps p.tables e below (s₁.setTop (mkF m 0 #[.val (.ref a1), .val (.int p1)] [])) t := (fun t k => (S61 t (st62.trans (S63 t (st64 t k)))))
  obtain ⟨fs, hr, hrun, hended, hW, hsame⟩ := X64.leave (v := none) (fun _ => rfl)
  refine ⟨_, _, pre0 _ (C67 _ ?_), hrun, hended, _, _, rfl, ?_, ⟨_, rfl⟩, hW, hsame.mono (by decide) (by decide)⟩
  · exact X64.returnOut hx Bd.returns (hb hby d6_9) hr
  · show Q_rm6 Z a1 p1 h0 n0 _ T64.heap _
    rw [e64]
    exact ⟨rfl, N66, ((Keep.refl h0 [a1]).wr W64 (Or.inl (List.mem_of_getElem? (i := 0) rfl)))⟩

theorem own_lo {p : Int32} (h : ¬ p < (0 : Int32)) : ¬ p < (-128 : Int32) := by
  rw [Int32.lt_iff_toInt_lt, show (0 : Int32).toInt = 0 by decide] at h
  rw [Int32.lt_iff_toInt_lt, show (-128 : Int32).toInt = -128 by decide]; omega
theorem own_ix {p : Int32} (h : ¬ p < (0 : Int32)) (h2 : ¬ (127 : Int32) < p) : (p + (128 : Int32)).toInt = (((p.toInt + 128).toNat : Nat) : Int) := by
  rw [Int32.lt_iff_toInt_lt, show (0 : Int32).toInt = 0 by decide] at h
  rw [Int32.lt_iff_toInt_lt, show (127 : Int32).toInt = 127 by decide] at h2
  rw [own_add32] <;> rw [show (128 : Int32).toInt = 128 by decide] <;> omega
theorem own_ix2 {p : Int32} (h : ¬ p < (0 : Int32)) (h2 : ¬ (127 : Int32) < p) : (p.toInt + 128).toNat < 256 := by
  rw [Int32.lt_iff_toInt_lt, show (0 : Int32).toInt = 0 by decide] at h
  rw [Int32.lt_iff_toInt_lt, show (127 : Int32).toInt = 127 by decide] at h2
  omega
theorem ef_rm5 (m : MethodId) (x0 : Int32) : entryFrame m #[(.int x0)] 1 = mkF m 0 #[.val (.int x0)] [] := by first | (simp [entryFrame, mkF, argsToLocals, Value.category]; done) | rfl
def Q_rm5 (Z : State) (p1 : Int32) (h0 : Heap) (n0 : Nat) (v : Option Value) (h : Heap) (L : List Loc) : Prop := ∃ b : Addr, v = some (.ref b) ∧ Fr n0 L ∧ Keep h0 h [] ∧ Exa Z h b "java/lang/Integer"
set_option maxRecDepth 65536 in
set_option maxHeartbeats 40000000 in
theorem rm5 (l : Launch) (Z : State) (a0 : Array Value) (hw : ∀ d ∈ tables_1, d.before a0 Z = true) (ws : List Jvm.Cond) (p1 : Int32) (h0 : Heap) (n0 : Nat) (Z0 : n0 ≤ h0.size) (O : Old Z n0 h0) (HI : own_IC Z) (hp : ¬ p1 < (0 : Int32)) :
    MetFree l (⟨"java/lang/Integer", "valueOf", "(I)Ljava/lang/Integer;"⟩ : MethodName) (head1 (Jvm.Cond.code (⟨"java/lang/Integer", "valueOf", "(I)Ljava/lang/Integer;"⟩ : MethodName) jdk_33_method_22_code 1 (some (.object "java/lang/Integer")) :: ws) ({ frames := 3, cells := 1, slots := 1, locals := 38 } : Room)) (fun a U => a = #[(.int p1)] ∧ Z.Warmed39 U.vm ∧ U.heap = h0) (fun _ _ _ _ _ => True) (fun _ U o U' => ∃ v L, o = .returned v ∧ Q_rm5 Z p1 h0 n0 v U'.heap L ∧ FrameEnd U o U' L ({ frames := 3, cells := 1, slots := 1, locals := 38 } : Room).cells ({ frames := 3, cells := 1, slots := 1, locals := 38 } : Room).slots) := by
  refine MetFree.of_bodySF (plainFor_of_name pn_3) hisR ?_
  intro p e s m args below meth c s₁ Bd hml0 hP hK
  obtain ⟨rfl, hZ, hh⟩ := hP
  have hx := Bd.exec
  have hby := Bd.bytes
  have hml : c.maxLocals = 1 := hml0
  have hown : s.vm.findClass "java/lang/Integer" = some m.cls := findClass_of_methodNamed Bd.named
  have hnm := (name_of_methodNamed Bd.named Bd.method).1
  have X0 : Stand p l e ({ frames := 3, cells := 1, slots := 1, locals := 38 } : Room) s m #[(.int p1)] below meth c s₁ [] 0 0 := Stand.of_body Bd
  have e0 : s₁.heap = h0 := by rw [← hh, Bd.state]; rfl
  have N0 := Fr.nil n0
  have pre0 : ∀ t, Steps p.tables e below (s₁.setTop (mkF m 0 #[.val (.int p1)] [])) t → Steps p.tables e below (s₁.setTop (entryFrame m #[(.int p1)] 1)) t := fun t k => castTop (ef_rm5 m p1) k
  obtain ⟨hI1, tI, C, hI2, hI3, hI4⟩ := HI
  have hS1 := Sta.ext O.2 hI1
  have hS2 := Sta.ext O.2 hI2
  have hA := hI3.ext O.2
  have S68 : ∀ t, Steps p.tables e below (s₁.setTop (mkF m 7 #[.val (.int p1)] [(.int p1)])) t → Steps p.tables e below (s₁.setTop (mkF m 0 #[.val (.int p1)] [])) t := by
    intro t kt
    show Steps p.tables e below (s₁.setTop (mkF m 0 #[.val (.int p1)] [])) _
    refine XS.iloadN X0.here hx rfl (hb hby d5_0) rfl ?_
    show Steps p.tables e below (s₁.setTop (mkF m 1 #[.val (.int p1)] [(.int p1)])) _
    refine XS.bipush X0.here hx rfl (hb hby d5_1) ?_
    show Steps p.tables e below (s₁.setTop (mkF m 3 #[.val (.int p1)] [(.int (-128 : Int32)), (.int p1)])) _
    refine XS.icmpNo X0.here hx rfl (hb hby d5_3) rfl (flt (own_lo hp)).1 ?_
    show Steps p.tables e below (s₁.setTop (mkF m 6 #[.val (.int p1)] [])) _
    refine XS.iloadN X0.here hx rfl (hb hby d5_6) rfl ?_
    exact kt
  obtain ⟨T69, X69, e69, st69⟩ := getS2 X0 hx hZ hown (host := "") (Or.inl (hw _ (List.mem_of_getElem? (i := 31) rfl))) Via.refl e0 hS1 (g := (mkF m 7 #[.val (.int p1)] [(.int p1)])) rfl (hb hby d5_7)
  by_cases hc70 : (127 : Int32) < p1
  · have S71 : ∀ t, Steps p.tables e below (T69.setTop (mkF m 23 #[.val (.int p1)] [])) t → Steps p.tables e below (T69.setTop (mkF m 10 #[.val (.int p1)] [(.int (127 : Int32)), (.int p1)])) t := by
      intro t kt
      show Steps p.tables e below (T69.setTop (mkF m 10 #[.val (.int p1)] [(.int (127 : Int32)), (.int p1)])) _
      refine XS.icmpYes X69.here hx rfl (pc0 := 10) (pc' := 23) rfl (hb hby d5_10) rfl (tlt hc70).2.2.1 (by decide) (by decide) ?_
      exact kt
    obtain ⟨T72, h72, X72, e72, E72, A72, D72, -, st72⟩ := newO X69 hx hZ hown (hw _ (List.mem_of_getElem? (i := 37) rfl)) (hw _ (List.mem_of_getElem? (i := 38) rfl)) (hw _ (List.mem_of_getElem? (i := 29) rfl)) e69 (g := (mkF m 23 #[.val (.int p1)] [])) rfl (hb hby d5_23) (by decide) (by decide)
    obtain ⟨b72, g72⟩ : ∃ z, z = h0.size := ⟨_, rfl⟩
    rw [← g72] at A72 D72 st72
    have g_b72 : n0 ≤ b72 := Nat.le_trans Z0 (Nat.le_of_eq g72.symm)
    have K73 := (Keep.refl h0 [])
    have sz_b72 : h0.size ≤ b72 := Nat.le_trans K73.1 (Nat.le_of_eq g72.symm)
    have ne_tI_b72 : tI ≠ b72 := Nat.ne_of_lt (Nat.lt_of_lt_of_le hA.lt (Nat.le_of_eq g72.symm))
    have z74 : n0 ≤ h72.size := Nat.le_trans Z0 E72.1
    have F75 : Fld Z h72 b72 "java/lang/Integer" "value" "I" (.int (0 : Int32)) := D72 (Or.inr (hw _ (List.mem_of_getElem? (i := 51) rfl))) (ty := .int) (by decide)
    have S76 : ∀ t, Steps p.tables e below (T72.setTop (mkF m 28 #[.val (.int p1)] [(.int p1), (.ref b72), (.ref b72)])) t → Steps p.tables e below (T72.setTop (mkF m 26 #[.val (.int p1)] [(.ref b72)])) t := by
      intro t kt
      show Steps p.tables e below (T72.setTop (mkF m 26 #[.val (.int p1)] [(.ref b72)])) _
      refine XS.dup X72.here hx rfl (hb hby d5_26) rfl rfl ?_
      show Steps p.tables e below (T72.setTop (mkF m 27 #[.val (.int p1)] [(.ref b72), (.ref b72)])) _
      refine XS.iloadN X72.here hx rfl (hb hby d5_27) rfl ?_
      exact kt
    obtain ⟨_, _, ⟨T77, L77, k77, n77⟩, -, X77, ⟨Lc77, hQ77, l77, y77, z77⟩, st77⟩ := X72.specialBack hx (y := (⟨"java/lang/Integer", "<init>", "(I)V"⟩ : MethodName)) rfl hown (mvT hZ (hw _ (List.mem_of_getElem? (i := 39) rfl))) (mvT hZ (hw _ (List.mem_of_getElem? (i := 40) rfl))) (mvT hZ (hw _ (List.mem_of_getElem? (i := 42) rfl))) (by decide) (backOf (W := 1) (rm6 l Z a0 hw [] b72 p1 h72 n0 z74 A72 F75 g_b72) hZ (hw _ (List.mem_of_getElem? (i := 42) rfl)) (hw _ (List.mem_of_getElem? (i := 29) rfl)) (by decide) (by decide)) (g := (mkF m 28 #[.val (.int p1)] [(.int p1), (.ref b72), (.ref b72)])) rfl (by rw [hml]; rfl) (Steps.refl _) (a := b72) (argsL := [(.int p1)]) (rest := [(.ref b72)]) (lenOf pd_1 rfl) rfl (by show 2 * 0 + _ ≤ _; exact Nat.le_of_eq rfl) (hb hby d5_28) (fun _ _ => ⟨rfl, e72, (by decide : 1 + 0 ≤ _), (by decide : 1 + 0 ≤ _)⟩)
    dsimp only [Pt.U, Pt.locs, Pt.cells, Pt.slots] at X77 l77 y77 z77 st77 hQ77
    subst l77 y77 z77
    obtain ⟨h77, e77⟩ : ∃ z, T77.heap = z := ⟨_, rfl⟩
    rw [e77] at hQ77
    obtain ⟨rfl, N77q, K77q⟩ := hQ77
    have z78 : n0 ≤ h77.size := Nat.le_trans z74 K77q.1
    have N77 := Fr.app N0 N77q
    have C79 : ∀ t, Steps p.tables e below (T77.setTop (mkF m 31 #[.val (.int p1)] [(.ref b72)])) t → Steps p.tables e below (s₁.setTop (mkF m 0 #[.val (.int p1)] [])) t := (fun t k => (S68 t (st69 t (S71 t (st72 t (S76 t (st77.trans k)))))))
    obtain ⟨fs, hr, hrun, hended, hW, hsame⟩ := X77.leave (v := some (.ref b72)) (fun h => by rw [Bd.returns] at h; cases h)
    refine ⟨_, _, pre0 _ (C79 _ ?_), hrun, hended, _, _, rfl, ?_, ⟨_, rfl⟩, hW, hsame.mono (by decide) (by decide)⟩
    · exact retOut X77 hx Bd.returns rfl (Or.inr (Or.inr (Or.inr (Or.inr ⟨rfl, rfl, rfl⟩)))) (hb hby d5_31) hr
    · show Q_rm5 Z p1 h0 n0 _ T77.heap _
      rw [e77]
      have f80 := (A72.keep K77q)
      exact ⟨_, rfl, N77, ((K73.ext E72).trans K77q (allS (Or.inr sz_b72) all0)), f80⟩
  · have S81 : ∀ t, Steps p.tables e below (T69.setTop (mkF m 13 #[.val (.int p1)] [])) t → Steps p.tables e below (T69.setTop (mkF m 10 #[.val (.int p1)] [(.int (127 : Int32)), (.int p1)])) t := by
      intro t kt
      show Steps p.tables e below (T69.setTop (mkF m 10 #[.val (.int p1)] [(.int (127 : Int32)), (.int p1)])) _
      refine XS.icmpNo X69.here hx rfl (hb hby d5_10) rfl (flt hc70).2.2.1 ?_
      exact kt
    obtain ⟨T82, X82, e82, st82⟩ := getS2 X69 hx hZ hown (host := "") (Or.inl (hw _ (List.mem_of_getElem? (i := 33) rfl))) Via.refl e69 hS2 (g := (mkF m 13 #[.val (.int p1)] [])) rfl (hb hby d5_13)
    have S83 : ∀ t, Steps p.tables e below (T82.setTop (mkF m 22 #[.val (.int p1)] [(.ref (C (p1.toInt + 128).toNat))])) t → Steps p.tables e below (T82.setTop (mkF m 16 #[.val (.int p1)] [(.ref tI)])) t := by
      intro t kt
      show Steps p.tables e below (T82.setTop (mkF m 16 #[.val (.int p1)] [(.ref tI)])) _
      refine XS.iloadN X82.here hx rfl (hb hby d5_16) rfl ?_
      show Steps p.tables e below (T82.setTop (mkF m 17 #[.val (.int p1)] [(.int p1), (.ref tI)])) _
      refine XS.sipush X82.here hx rfl (hb hby d5_17) ?_
      show Steps p.tables e below (T82.setTop (mkF m 20 #[.val (.int p1)] [(.int (128 : Int32)), (.int p1), (.ref tI)])) _
      refine XS.iadd X82.here hx rfl (hb hby d5_20) rfl ?_
      show Steps p.tables e below (T82.setTop (mkF m 21 #[.val (.int p1)] [(.int (p1 + (128 : Int32))), (.ref tI)])) _
      refine ArF.ldA X82 hx hZ e82 hA rfl (i := (p1.toInt + 128).toNat) (own_ix hp hc70) (own_ix2 hp hc70) (v := (.ref (C (p1.toInt + 128).toNat))) rfl (g := (mkF m 21 #[.val (.int p1)] [(.int (p1 + (128 : Int32))), (.ref tI)])) rfl rfl (hb hby d5_21) _ ?_
      exact kt
    have C84 : ∀ t, Steps p.tables e below (T82.setTop (mkF m 22 #[.val (.int p1)] [(.ref (C (p1.toInt + 128).toNat))])) t → Steps p.tables e below (s₁.setTop (mkF m 0 #[.val (.int p1)] [])) t := (fun t k => (S68 t (st69 t (S81 t (st82 t (S83 t k))))))
    obtain ⟨fs, hr, hrun, hended, hW, hsame⟩ := X82.leave (v := some (.ref (C (p1.toInt + 128).toNat))) (fun h => by rw [Bd.returns] at h; cases h)
    refine ⟨_, _, pre0 _ (C84 _ ?_), hrun, hended, _, _, rfl, ?_, ⟨_, rfl⟩, hW, hsame.mono (by decide) (by decide)⟩
    · exact retOut X82 hx Bd.returns rfl (Or.inr (Or.inr (Or.inr (Or.inr ⟨rfl, rfl, rfl⟩)))) (hb hby d5_22) hr
    · show Q_rm5 Z p1 h0 n0 _ T82.heap _
      rw [e82]
      exact ⟨_, rfl, N0, (Keep.refl h0 []), (hI4 _ (own_ix2 hp hc70)).ext O.2⟩
theorem ef_rm0 (m : MethodId) (x0 : Int32) (x1 : Int64) (x2 : Int32) (x3 : Int64) (x4 : Int32) : entryFrame m #[(.int x0), (.long x1), (.int x2), (.long x3), (.int x4)] maxLocals = mkF m 0 #[.val (.int x0), .val (.long x1), .second, .val (.int x2), .val (.long x3), .second, .val (.int x4), .unset, .unset, .unset, .unset, .unset, .unset, .unset, .unset, .unset, .unset, .unset, .unset, .unset, .unset] [] := by first | (simp [entryFrame, mkF, argsToLocals, Value.category, maxLocals]; done) | rfl
def Q_rm0 (Z : State) (s1 : Int32) (q1 : Int64) (s2 : Int32) (q2 : Int64) (fl : Int32) (h0 : Heap) (n0 : Nat) (v : Option Value) (h : Heap) (L : List Loc) : Prop := v = some (.int 1) ∧ Fr n0 L
set_option maxRecDepth 65536 in
set_option maxHeartbeats 40000000 in
theorem rm0 (l : Launch) (Z : State) (a0 : Array Value) (hw : ∀ d ∈ tables_1, d.before a0 Z = true) (ws : List Jvm.Cond) (s1 : Int32) (q1 : Int64) (s2 : Int32) (q2 : Int64) (fl : Int32) (h0 : Heap) (n0 : Nat) (Z0 : n0 ≤ h0.size) (O : Old Z n0 h0) (HI : own_IC Z) :
    MetFree l x (head1 (Jvm.Cond.code x code maxLocals ret :: ws) room_1) (fun a U => a = #[(.int s1), (.long q1), (.int s2), (.long q2), (.int fl)] ∧ Z.Warmed39 U.vm ∧ U.heap = h0) (fun _ _ _ _ _ => True) (fun _ U o U' => ∃ v L, o = .returned v ∧ Q_rm0 Z s1 q1 s2 q2 fl h0 n0 v U'.heap L ∧ FrameEnd U o U' L room_1.cells room_1.slots) := by
  refine MetFree.of_bodySF (plainFor_of_name pn_4) hisR ?_
  intro p e s m args below meth c s₁ Bd hml0 hP hK
  obtain ⟨rfl, hZ, hh⟩ := hP
  have hx := Bd.exec
  have hby := Bd.bytes
  have hml : c.maxLocals = 21 := hml0
  have hown : s.vm.findClass "com/example/totality/totality/core/LabelEqualsPinLaw" = some m.cls := findClass_of_methodNamed Bd.named
  have hnm := (name_of_methodNamed Bd.named Bd.method).1
  have X0 : Stand p l e room_1 s m #[(.int s1), (.long q1), (.int s2), (.long q2), (.int fl)] below meth c s₁ [] 0 0 := Stand.of_body Bd
  have e0 : s₁.heap = h0 := by rw [← hh, Bd.state]; rfl
  have N0 := Fr.nil n0
  have pre0 : ∀ t, Steps p.tables e below (s₁.setTop (mkF m 0 #[.val (.int s1), .val (.long q1), .second, .val (.int s2), .val (.long q2), .second, .val (.int fl), .unset, .unset, .unset, .unset, .unset, .unset, .unset, .unset, .unset, .unset, .unset, .unset, .unset, .unset] [])) t → Steps p.tables e below (s₁.setTop (entryFrame m #[(.int s1), (.long q1), (.int s2), (.long q2), (.int fl)] maxLocals)) t := fun t k => castTop (ef_rm0 m s1 q1 s2 q2 fl) k
  have S86 : ∀ t, Steps p.tables e below (s₁.setTop (mkF m 4 #[.val (.int s1), .val (.long q1), .second, .val (.int s2), .val (.long q2), .second, .val (.int fl), .unset, .unset, .unset, .unset, .unset, .unset, .unset, .unset, .unset, .unset, .unset, .unset, .unset, .unset] [(.int (s1 &&& (2147483647 : Int32)))])) t → Steps p.tables e below (s₁.setTop (mkF m 0 #[.val (.int s1), .val (.long q1), .second, .val (.int s2), .val (.long q2), .second, .val (.int fl), .unset, .unset, .unset, .unset, .unset, .unset, .unset, .unset, .unset, .unset, .unset, .unset, .unset, .unset] [])) t := by
    intro t kt
    show Steps p.tables e below (s₁.setTop (mkF m 0 #[.val (.int s1), .val (.long q1), .second, .val (.int s2), .val (.long q2), .second, .val (.int fl), .unset, .unset, .unset, .unset, .unset, .unset, .unset, .unset, .unset, .unset, .unset, .unset, .unset, .unset] [])) _
    refine XS.iloadN X0.here hx rfl (hb hby at_0) rfl ?_
    show Steps p.tables e below (s₁.setTop (mkF m 1 #[.val (.int s1), .val (.long q1), .second, .val (.int s2), .val (.long q2), .second, .val (.int fl), .unset, .unset, .unset, .unset, .unset, .unset, .unset, .unset, .unset, .unset, .unset, .unset, .unset, .unset] [(.int s1)])) _
    refine X0.ldcInt hx hown (mvT hZ (hw _ (List.mem_of_getElem? (i := 0) rfl))) (g := (mkF m 1 #[.val (.int s1), .val (.long q1), .second, .val (.int s2), .val (.long q2), .second, .val (.int fl), .unset, .unset, .unset, .unset, .unset, .unset, .unset, .unset, .unset, .unset, .unset, .unset, .unset, .unset] [(.int s1)])) rfl (hb hby at_1) _ ?_
    show Steps p.tables e below (s₁.setTop (mkF m 3 #[.val (.int s1), .val (.long q1), .second, .val (.int s2), .val (.long q2), .second, .val (.int fl), .unset, .unset, .unset, .unset, .unset, .unset, .unset, .unset, .unset, .unset, .unset, .unset, .unset, .unset] [(.int (2147483647 : Int32)), (.int s1)])) _
    refine XS.iand X0.here hx rfl (hb hby at_3) rfl ?_
    exact kt
  obtain ⟨v85, hv85⟩ : ∃ z : Int32, z = (s1 &&& (2147483647 : Int32)) := ⟨_, rfl⟩
  have S87 : ∀ t, Steps p.tables e below (s₁.setTop (mkF m 4 #[.val (.int s1), .val (.long q1), .second, .val (.int s2), .val (.long q2), .second, .val (.int fl), .unset, .unset, .unset, .unset, .unset, .unset, .unset, .unset, .unset, .unset, .unset, .unset, .unset, .unset] [(.int v85)])) t → Steps p.tables e below (s₁.setTop (mkF m 4 #[.val (.int s1), .val (.long q1), .second, .val (.int s2), .val (.long q2), .second, .val (.int fl), .unset, .unset, .unset, .unset, .unset, .unset, .unset, .unset, .unset, .unset, .unset, .unset, .unset, .unset] [(.int (s1 &&& (2147483647 : Int32)))])) t := fun t k => by rw [hv85.symm]; exact k
  have hsa : ¬ v85 < (0 : Int32) := by rw [hv85]; exact own_nn32 _
  have S89 : ∀ t, Steps p.tables e below (s₁.setTop (mkF m 11 #[.val (.int s1), .val (.long q1), .second, .val (.int s2), .val (.long q2), .second, .val (.int fl), .val (.int v85), .unset, .unset, .unset, .unset, .unset, .unset, .unset, .unset, .unset, .unset, .unset, .unset, .unset] [(.long (q1 &&& (9223372036854775807 : Int64)))])) t → Steps p.tables e below (s₁.setTop (mkF m 4 #[.val (.int s1), .val (.long q1), .second, .val (.int s2), .val (.long q2), .second, .val (.int fl), .unset, .unset, .unset, .unset, .unset, .unset, .unset, .unset, .unset, .unset, .unset, .unset, .unset, .unset] [(.int v85)])) t := by
    intro t kt
    show Steps p.tables e below (s₁.setTop (mkF m 4 #[.val (.int s1), .val (.long q1), .second, .val (.int s2), .val (.long q2), .second, .val (.int fl), .unset, .unset, .unset, .unset, .unset, .unset, .unset, .unset, .unset, .unset, .unset, .unset, .unset, .unset] [(.int v85)])) _
    refine XS.istore X0.here hx rfl (hb hby at_4) rfl (l' := #[.val (.int s1), .val (.long q1), .second, .val (.int s2), .val (.long q2), .second, .val (.int fl), .val (.int v85), .unset, .unset, .unset, .unset, .unset, .unset, .unset, .unset, .unset, .unset, .unset, .unset, .unset]) rfl ?_
    show Steps p.tables e below (s₁.setTop (mkF m 6 #[.val (.int s1), .val (.long q1), .second, .val (.int s2), .val (.long q2), .second, .val (.int fl), .val (.int v85), .unset, .unset, .unset, .unset, .unset, .unset, .unset, .unset, .unset, .unset, .unset, .unset, .unset] [])) _
    refine XS.lloadN X0.here hx rfl (hb hby at_6) rfl ?_
    show Steps p.tables e below (s₁.setTop (mkF m 7 #[.val (.int s1), .val (.long q1), .second, .val (.int s2), .val (.long q2), .second, .val (.int fl), .val (.int v85), .unset, .unset, .unset, .unset, .unset, .unset, .unset, .unset, .unset, .unset, .unset, .unset, .unset] [(.long q1)])) _
    refine X0.ldc2Long hx hown (mvT hZ (hw _ (List.mem_of_getElem? (i := 1) rfl))) (g := (mkF m 7 #[.val (.int s1), .val (.long q1), .second, .val (.int s2), .val (.long q2), .second, .val (.int fl), .val (.int v85), .unset, .unset, .unset, .unset, .unset, .unset, .unset, .unset, .unset, .unset, .unset, .unset, .unset] [(.long q1)])) rfl (hb hby at_7) _ ?_
    show Steps p.tables e below (s₁.setTop (mkF m 10 #[.val (.int s1), .val (.long q1), .second, .val (.int s2), .val (.long q2), .second, .val (.int fl), .val (.int v85), .unset, .unset, .unset, .unset, .unset, .unset, .unset, .unset, .unset, .unset, .unset, .unset, .unset] [(.long (9223372036854775807 : Int64)), (.long q1)])) _
    refine XS.land X0.here hx rfl (hb hby at_10) rfl ?_
    exact kt
  obtain ⟨v88, hv88⟩ : ∃ z : Int64, z = (q1 &&& (9223372036854775807 : Int64)) := ⟨_, rfl⟩
  have S90 : ∀ t, Steps p.tables e below (s₁.setTop (mkF m 11 #[.val (.int s1), .val (.long q1), .second, .val (.int s2), .val (.long q2), .second, .val (.int fl), .val (.int v85), .unset, .unset, .unset, .unset, .unset, .unset, .unset, .unset, .unset, .unset, .unset, .unset, .unset] [(.long v88)])) t → Steps p.tables e below (s₁.setTop (mkF m 11 #[.val (.int s1), .val (.long q1), .second, .val (.int s2), .val (.long q2), .second, .val (.int fl), .val (.int v85), .unset, .unset, .unset, .unset, .unset, .unset, .unset, .unset, .unset, .unset, .unset, .unset, .unset] [(.long (q1 &&& (9223372036854775807 : Int64)))])) t := fun t k => by rw [hv88.symm]; exact k
  have hqa : ¬ v88 < (0 : Int64) := by rw [hv88]; exact own_nn64 _
  have S91 : ∀ t, Steps p.tables e below (s₁.setTop (mkF m 17 #[.val (.int s1), .val (.long q1), .second, .val (.int s2), .val (.long q2), .second, .val (.int fl), .val (.int v85), .val (.long v88), .second, .unset, .unset, .unset, .unset, .unset, .unset, .unset, .unset, .unset, .unset, .unset] [(.int (fl &&& (1 : Int32)))])) t → Steps p.tables e below (s₁.setTop (mkF m 11 #[.val (.int s1), .val (.long q1), .second, .val (.int s2), .val (.long q2), .second, .val (.int fl), .val (.int v85), .unset, .unset, .unset, .unset, .unset, .unset, .unset, .unset, .unset, .unset, .unset, .unset, .unset] [(.long v88)])) t := by
    intro t kt
    show Steps p.tables e below (s₁.setTop (mkF m 11 #[.val (.int s1), .val (.long q1), .second, .val (.int s2), .val (.long q2), .second, .val (.int fl), .val (.int v85), .unset, .unset, .unset, .unset, .unset, .unset, .unset, .unset, .unset, .unset, .unset, .unset, .unset] [(.long v88)])) _
    refine XS.lstore X0.here hx rfl (hb hby at_11) rfl (l' := #[.val (.int s1), .val (.long q1), .second, .val (.int s2), .val (.long q2), .second, .val (.int fl), .val (.int v85), .val (.long v88), .second, .unset, .unset, .unset, .unset, .unset, .unset, .unset, .unset, .unset, .unset, .unset]) rfl ?_
    show Steps p.tables e below (s₁.setTop (mkF m 13 #[.val (.int s1), .val (.long q1), .second, .val (.int s2), .val (.long q2), .second, .val (.int fl), .val (.int v85), .val (.long v88), .second, .unset, .unset, .unset, .unset, .unset, .unset, .unset, .unset, .unset, .unset, .unset] [])) _
    refine XS.iload X0.here hx rfl (hb hby at_13) rfl ?_
    show Steps p.tables e below (s₁.setTop (mkF m 15 #[.val (.int s1), .val (.long q1), .second, .val (.int s2), .val (.long q2), .second, .val (.int fl), .val (.int v85), .val (.long v88), .second, .unset, .unset, .unset, .unset, .unset, .unset, .unset, .unset, .unset, .unset, .unset] [(.int fl)])) _
    refine XS.iconst X0.here hx rfl (hb hby at_15) ?_
    show Steps p.tables e below (s₁.setTop (mkF m 16 #[.val (.int s1), .val (.long q1), .second, .val (.int s2), .val (.long q2), .second, .val (.int fl), .val (.int v85), .val (.long v88), .second, .unset, .unset, .unset, .unset, .unset, .unset, .unset, .unset, .unset, .unset, .unset] [(.int (1 : Int32)), (.int fl)])) _
    refine XS.iand X0.here hx rfl (hb hby at_16) rfl ?_
    exact kt
  obtain ⟨v94, hv94⟩ : ∃ z : Int32, z = (if (fl &&& (1 : Int32)) = (0 : Int32) then (s2 &&& (2147483647 : Int32)) else v85) := ⟨_, rfl⟩
  have S93 : ∀ t, Steps p.tables e below (s₁.setTop (mkF m 29 #[.val (.int s1), .val (.long q1), .second, .val (.int s2), .val (.long q2), .second, .val (.int fl), .val (.int v85), .val (.long v88), .second, .unset, .unset, .unset, .unset, .unset, .unset, .unset, .unset, .unset, .unset, .unset] [(.int v94)])) t → Steps p.tables e below (s₁.setTop (mkF m 17 #[.val (.int s1), .val (.long q1), .second, .val (.int s2), .val (.long q2), .second, .val (.int fl), .val (.int v85), .val (.long v88), .second, .unset, .unset, .unset, .unset, .unset, .unset, .unset, .unset, .unset, .unset, .unset] [(.int (fl &&& (1 : Int32)))])) t := by
    intro t kt
    subst hv94
    by_cases hc92 : (fl &&& (1 : Int32)) = (0 : Int32)
    · simp only [if_pos hc92] at kt
      show Steps p.tables e below (s₁.setTop (mkF m 17 #[.val (.int s1), .val (.long q1), .second, .val (.int s2), .val (.long q2), .second, .val (.int fl), .val (.int v85), .val (.long v88), .second, .unset, .unset, .unset, .unset, .unset, .unset, .unset, .unset, .unset, .unset, .unset] [(.int (fl &&& (1 : Int32)))])) _
      refine XS.ifYes X0.here hx rfl (pc0 := 17) (pc' := 25) rfl (hb hby at_17) rfl ((if0 _ _).trans (teq hc92).1) (by decide) (by decide) ?_
      show Steps p.tables e below (s₁.setTop (mkF m 25 #[.val (.int s1), .val (.long q1), .second, .val (.int s2), .val (.long q2), .second, .val (.int fl), .val (.int v85), .val (.long v88), .second, .unset, .unset, .unset, .unset, .unset, .unset, .unset, .unset, .unset, .unset, .unset] [])) _
      refine XS.iloadN X0.here hx rfl (hb hby at_25) rfl ?_
      show Steps p.tables e below (s₁.setTop (mkF m 26 #[.val (.int s1), .val (.long q1), .second, .val (.int s2), .val (.long q2), .second, .val (.int fl), .val (.int v85), .val (.long v88), .second, .unset, .unset, .unset, .unset, .unset, .unset, .unset, .unset, .unset, .unset, .unset] [(.int s2)])) _
      refine X0.ldcInt hx hown (mvT hZ (hw _ (List.mem_of_getElem? (i := 0) rfl))) (g := (mkF m 26 #[.val (.int s1), .val (.long q1), .second, .val (.int s2), .val (.long q2), .second, .val (.int fl), .val (.int v85), .val (.long v88), .second, .unset, .unset, .unset, .unset, .unset, .unset, .unset, .unset, .unset, .unset, .unset] [(.int s2)])) rfl (hb hby at_26) _ ?_
      show Steps p.tables e below (s₁.setTop (mkF m 28 #[.val (.int s1), .val (.long q1), .second, .val (.int s2), .val (.long q2), .second, .val (.int fl), .val (.int v85), .val (.long v88), .second, .unset, .unset, .unset, .unset, .unset, .unset, .unset, .unset, .unset, .unset, .unset] [(.int (2147483647 : Int32)), (.int s2)])) _
      refine XS.iand X0.here hx rfl (hb hby at_28) rfl ?_
      exact kt
    · simp only [if_neg hc92] at kt
      show Steps p.tables e below (s₁.setTop (mkF m 17 #[.val (.int s1), .val (.long q1), .second, .val (.int s2), .val (.long q2), .second, .val (.int fl), .val (.int v85), .val (.long v88), .second, .unset, .unset, .unset, .unset, .unset, .unset, .unset, .unset, .unset, .unset, .unset] [(.int (fl &&& (1 : Int32)))])) _
      refine XS.ifNo X0.here hx rfl (hb hby at_17) rfl ((if0 _ _).trans (feq hc92).1) ?_
      show Steps p.tables e below (s₁.setTop (mkF m 20 #[.val (.int s1), .val (.long q1), .second, .val (.int s2), .val (.long q2), .second, .val (.int fl), .val (.int v85), .val (.long v88), .second, .unset, .unset, .unset, .unset, .unset, .unset, .unset, .unset, .unset, .unset, .unset] [])) _
      refine XS.iload X0.here hx rfl (hb hby at_20) rfl ?_
      show Steps p.tables e below (s₁.setTop (mkF m 22 #[.val (.int s1), .val (.long q1), .second, .val (.int s2), .val (.long q2), .second, .val (.int fl), .val (.int v85), .val (.long v88), .second, .unset, .unset, .unset, .unset, .unset, .unset, .unset, .unset, .unset, .unset, .unset] [(.int v85)])) _
      refine XS.goto X0.here hx rfl (pc0 := 22) (pc' := 29) rfl (hb hby at_22) (by decide) (by decide) ?_
      exact kt
  have hsb : ¬ v94 < (0 : Int32) := by rw [hv94]; split; exact own_nn32 _; exact hsa
  have S95 : ∀ t, Steps p.tables e below (s₁.setTop (mkF m 35 #[.val (.int s1), .val (.long q1), .second, .val (.int s2), .val (.long q2), .second, .val (.int fl), .val (.int v85), .val (.long v88), .second, .val (.int v94), .unset, .unset, .unset, .unset, .unset, .unset, .unset, .unset, .unset, .unset] [(.int (fl &&& (2 : Int32)))])) t → Steps p.tables e below (s₁.setTop (mkF m 29 #[.val (.int s1), .val (.long q1), .second, .val (.int s2), .val (.long q2), .second, .val (.int fl), .val (.int v85), .val (.long v88), .second, .unset, .unset, .unset, .unset, .unset, .unset, .unset, .unset, .unset, .unset, .unset] [(.int v94)])) t := by
    intro t kt
    show Steps p.tables e below (s₁.setTop (mkF m 29 #[.val (.int s1), .val (.long q1), .second, .val (.int s2), .val (.long q2), .second, .val (.int fl), .val (.int v85), .val (.long v88), .second, .unset, .unset, .unset, .unset, .unset, .unset, .unset, .unset, .unset, .unset, .unset] [(.int v94)])) _
    refine XS.istore X0.here hx rfl (hb hby at_29) rfl (l' := #[.val (.int s1), .val (.long q1), .second, .val (.int s2), .val (.long q2), .second, .val (.int fl), .val (.int v85), .val (.long v88), .second, .val (.int v94), .unset, .unset, .unset, .unset, .unset, .unset, .unset, .unset, .unset, .unset]) rfl ?_
    show Steps p.tables e below (s₁.setTop (mkF m 31 #[.val (.int s1), .val (.long q1), .second, .val (.int s2), .val (.long q2), .second, .val (.int fl), .val (.int v85), .val (.long v88), .second, .val (.int v94), .unset, .unset, .unset, .unset, .unset, .unset, .unset, .unset, .unset, .unset] [])) _
    refine XS.iload X0.here hx rfl (hb hby at_31) rfl ?_
    show Steps p.tables e below (s₁.setTop (mkF m 33 #[.val (.int s1), .val (.long q1), .second, .val (.int s2), .val (.long q2), .second, .val (.int fl), .val (.int v85), .val (.long v88), .second, .val (.int v94), .unset, .unset, .unset, .unset, .unset, .unset, .unset, .unset, .unset, .unset] [(.int fl)])) _
    refine XS.iconst X0.here hx rfl (hb hby at_33) ?_
    show Steps p.tables e below (s₁.setTop (mkF m 34 #[.val (.int s1), .val (.long q1), .second, .val (.int s2), .val (.long q2), .second, .val (.int fl), .val (.int v85), .val (.long v88), .second, .val (.int v94), .unset, .unset, .unset, .unset, .unset, .unset, .unset, .unset, .unset, .unset] [(.int (2 : Int32)), (.int fl)])) _
    refine XS.iand X0.here hx rfl (hb hby at_34) rfl ?_
    exact kt
  obtain ⟨v98, hv98⟩ : ∃ z : Int64, z = (if (fl &&& (2 : Int32)) = (0 : Int32) then (q2 &&& (9223372036854775807 : Int64)) else v88) := ⟨_, rfl⟩
  have S97 : ∀ t, Steps p.tables e below (s₁.setTop (mkF m 49 #[.val (.int s1), .val (.long q1), .second, .val (.int s2), .val (.long q2), .second, .val (.int fl), .val (.int v85), .val (.long v88), .second, .val (.int v94), .unset, .unset, .unset, .unset, .unset, .unset, .unset, .unset, .unset, .unset] [(.long v98)])) t → Steps p.tables e below (s₁.setTop (mkF m 35 #[.val (.int s1), .val (.long q1), .second, .val (.int s2), .val (.long q2), .second, .val (.int fl), .val (.int v85), .val (.long v88), .second, .val (.int v94), .unset, .unset, .unset, .unset, .unset, .unset, .unset, .unset, .unset, .unset] [(.int (fl &&& (2 : Int32)))])) t := by
    intro t kt
    subst hv98
    by_cases hc96 : (fl &&& (2 : Int32)) = (0 : Int32)
    · simp only [if_pos hc96] at kt
      show Steps p.tables e below (s₁.setTop (mkF m 35 #[.val (.int s1), .val (.long q1), .second, .val (.int s2), .val (.long q2), .second, .val (.int fl), .val (.int v85), .val (.long v88), .second, .val (.int v94), .unset, .unset, .unset, .unset, .unset, .unset, .unset, .unset, .unset, .unset] [(.int (fl &&& (2 : Int32)))])) _
      refine XS.ifYes X0.here hx rfl (pc0 := 35) (pc' := 43) rfl (hb hby at_35) rfl ((if0 _ _).trans (teq hc96).1) (by decide) (by decide) ?_
      show Steps p.tables e below (s₁.setTop (mkF m 43 #[.val (.int s1), .val (.long q1), .second, .val (.int s2), .val (.long q2), .second, .val (.int fl), .val (.int v85), .val (.long v88), .second, .val (.int v94), .unset, .unset, .unset, .unset, .unset, .unset, .unset, .unset, .unset, .unset] [])) _
      refine XS.lload X0.here hx rfl (hb hby at_43) rfl ?_
      show Steps p.tables e below (s₁.setTop (mkF m 45 #[.val (.int s1), .val (.long q1), .second, .val (.int s2), .val (.long q2), .second, .val (.int fl), .val (.int v85), .val (.long v88), .second, .val (.int v94), .unset, .unset, .unset, .unset, .unset, .unset, .unset, .unset, .unset, .unset] [(.long q2)])) _
      refine X0.ldc2Long hx hown (mvT hZ (hw _ (List.mem_of_getElem? (i := 1) rfl))) (g := (mkF m 45 #[.val (.int s1), .val (.long q1), .second, .val (.int s2), .val (.long q2), .second, .val (.int fl), .val (.int v85), .val (.long v88), .second, .val (.int v94), .unset, .unset, .unset, .unset, .unset, .unset, .unset, .unset, .unset, .unset] [(.long q2)])) rfl (hb hby at_45) _ ?_
      show Steps p.tables e below (s₁.setTop (mkF m 48 #[.val (.int s1), .val (.long q1), .second, .val (.int s2), .val (.long q2), .second, .val (.int fl), .val (.int v85), .val (.long v88), .second, .val (.int v94), .unset, .unset, .unset, .unset, .unset, .unset, .unset, .unset, .unset, .unset] [(.long (9223372036854775807 : Int64)), (.long q2)])) _
      refine XS.land X0.here hx rfl (hb hby at_48) rfl ?_
      exact kt
    · simp only [if_neg hc96] at kt
      show Steps p.tables e below (s₁.setTop (mkF m 35 #[.val (.int s1), .val (.long q1), .second, .val (.int s2), .val (.long q2), .second, .val (.int fl), .val (.int v85), .val (.long v88), .second, .val (.int v94), .unset, .unset, .unset, .unset, .unset, .unset, .unset, .unset, .unset, .unset] [(.int (fl &&& (2 : Int32)))])) _
      refine XS.ifNo X0.here hx rfl (hb hby at_35) rfl ((if0 _ _).trans (feq hc96).1) ?_
      show Steps p.tables e below (s₁.setTop (mkF m 38 #[.val (.int s1), .val (.long q1), .second, .val (.int s2), .val (.long q2), .second, .val (.int fl), .val (.int v85), .val (.long v88), .second, .val (.int v94), .unset, .unset, .unset, .unset, .unset, .unset, .unset, .unset, .unset, .unset] [])) _
      refine XS.lload X0.here hx rfl (hb hby at_38) rfl ?_
      show Steps p.tables e below (s₁.setTop (mkF m 40 #[.val (.int s1), .val (.long q1), .second, .val (.int s2), .val (.long q2), .second, .val (.int fl), .val (.int v85), .val (.long v88), .second, .val (.int v94), .unset, .unset, .unset, .unset, .unset, .unset, .unset, .unset, .unset, .unset] [(.long v88)])) _
      refine XS.goto X0.here hx rfl (pc0 := 40) (pc' := 49) rfl (hb hby at_40) (by decide) (by decide) ?_
      exact kt
  have hqb : ¬ v98 < (0 : Int64) := by rw [hv98]; split; exact own_nn64 _; exact hqa
  have S99 : ∀ t, Steps p.tables e below (s₁.setTop (mkF m 51 #[.val (.int s1), .val (.long q1), .second, .val (.int s2), .val (.long q2), .second, .val (.int fl), .val (.int v85), .val (.long v88), .second, .val (.int v94), .val (.long v98), .second, .unset, .unset, .unset, .unset, .unset, .unset, .unset, .unset] [])) t → Steps p.tables e below (s₁.setTop (mkF m 49 #[.val (.int s1), .val (.long q1), .second, .val (.int s2), .val (.long q2), .second, .val (.int fl), .val (.int v85), .val (.long v88), .second, .val (.int v94), .unset, .unset, .unset, .unset, .unset, .unset, .unset, .unset, .unset, .unset] [(.long v98)])) t := by
    intro t kt
    show Steps p.tables e below (s₁.setTop (mkF m 49 #[.val (.int s1), .val (.long q1), .second, .val (.int s2), .val (.long q2), .second, .val (.int fl), .val (.int v85), .val (.long v88), .second, .val (.int v94), .unset, .unset, .unset, .unset, .unset, .unset, .unset, .unset, .unset, .unset] [(.long v98)])) _
    refine XS.lstore X0.here hx rfl (hb hby at_49) rfl (l' := #[.val (.int s1), .val (.long q1), .second, .val (.int s2), .val (.long q2), .second, .val (.int fl), .val (.int v85), .val (.long v88), .second, .val (.int v94), .val (.long v98), .second, .unset, .unset, .unset, .unset, .unset, .unset, .unset, .unset]) rfl ?_
    exact kt
  obtain ⟨T100, h100, X100, e100, E100, A100, D100, -, st100⟩ := newO X0 hx hZ hown (hw _ (List.mem_of_getElem? (i := 2) rfl)) (hw _ (List.mem_of_getElem? (i := 3) rfl)) (hw _ (List.mem_of_getElem? (i := 4) rfl)) e0 (g := (mkF m 51 #[.val (.int s1), .val (.long q1), .second, .val (.int s2), .val (.long q2), .second, .val (.int fl), .val (.int v85), .val (.long v88), .second, .val (.int v94), .val (.long v98), .second, .unset, .unset, .unset, .unset, .unset, .unset, .unset, .unset] [])) rfl (hb hby at_51) (by decide) (by decide)
  obtain ⟨b100, g100⟩ : ∃ z, z = h0.size := ⟨_, rfl⟩
  rw [← g100] at A100 D100 st100
  have g_b100 : n0 ≤ b100 := Nat.le_trans Z0 (Nat.le_of_eq g100.symm)
  have K101 := (Keep.refl h0 [])
  have sz_b100 : h0.size ≤ b100 := Nat.le_trans K101.1 (Nat.le_of_eq g100.symm)
  have z102 : n0 ≤ h100.size := Nat.le_trans Z0 E100.1
  have F103 : Fld Z h100 b100 "com/example/totality/totality/core/Label" "sender" "I" (.int (0 : Int32)) := D100 (Or.inr (hw _ (List.mem_of_getElem? (i := 17) rfl))) (ty := .int) (by decide)
  have F104 : Fld Z h100 b100 "com/example/totality/totality/core/Label" "sequence" "J" (.long (0 : Int64)) := D100 (Or.inr (hw _ (List.mem_of_getElem? (i := 19) rfl))) (ty := .long) (by decide)
  have S105 : ∀ t, Steps p.tables e below (T100.setTop (mkF m 59 #[.val (.int s1), .val (.long q1), .second, .val (.int s2), .val (.long q2), .second, .val (.int fl), .val (.int v85), .val (.long v88), .second, .val (.int v94), .val (.long v98), .second, .unset, .unset, .unset, .unset, .unset, .unset, .unset, .unset] [(.long v88), (.int v85), (.ref b100), (.ref b100)])) t → Steps p.tables e below (T100.setTop (mkF m 54 #[.val (.int s1), .val (.long q1), .second, .val (.int s2), .val (.long q2), .second, .val (.int fl), .val (.int v85), .val (.long v88), .second, .val (.int v94), .val (.long v98), .second, .unset, .unset, .unset, .unset, .unset, .unset, .unset, .unset] [(.ref b100)])) t := by
    intro t kt
    show Steps p.tables e below (T100.setTop (mkF m 54 #[.val (.int s1), .val (.long q1), .second, .val (.int s2), .val (.long q2), .second, .val (.int fl), .val (.int v85), .val (.long v88), .second, .val (.int v94), .val (.long v98), .second, .unset, .unset, .unset, .unset, .unset, .unset, .unset, .unset] [(.ref b100)])) _
    refine XS.dup X100.here hx rfl (hb hby at_54) rfl rfl ?_
    show Steps p.tables e below (T100.setTop (mkF m 55 #[.val (.int s1), .val (.long q1), .second, .val (.int s2), .val (.long q2), .second, .val (.int fl), .val (.int v85), .val (.long v88), .second, .val (.int v94), .val (.long v98), .second, .unset, .unset, .unset, .unset, .unset, .unset, .unset, .unset] [(.ref b100), (.ref b100)])) _
    refine XS.iload X100.here hx rfl (hb hby at_55) rfl ?_
    show Steps p.tables e below (T100.setTop (mkF m 57 #[.val (.int s1), .val (.long q1), .second, .val (.int s2), .val (.long q2), .second, .val (.int fl), .val (.int v85), .val (.long v88), .second, .val (.int v94), .val (.long v98), .second, .unset, .unset, .unset, .unset, .unset, .unset, .unset, .unset] [(.int v85), (.ref b100), (.ref b100)])) _
    refine XS.lload X100.here hx rfl (hb hby at_57) rfl ?_
    exact kt
  obtain ⟨_, _, ⟨T106, L106, k106, n106⟩, -, X106, ⟨Lc106, hQ106, l106, y106, z106⟩, st106⟩ := X100.specialBack hx (y := (⟨"com/example/totality/totality/core/Label", "<init>", "(IJ)V"⟩ : MethodName)) rfl hown (mvT hZ (hw _ (List.mem_of_getElem? (i := 5) rfl))) (mvT hZ (hw _ (List.mem_of_getElem? (i := 6) rfl))) (mvT hZ (hw _ (List.mem_of_getElem? (i := 7) rfl))) (by decide) (backOf (W := 1) (rm1 l Z a0 hw [] b100 v85 v88 h100 n0 z102 A100 F103 F104 g_b100 hsa hqa) hZ (hw _ (List.mem_of_getElem? (i := 7) rfl)) (hw _ (List.mem_of_getElem? (i := 4) rfl)) (by decide) (by decide)) (g := (mkF m 59 #[.val (.int s1), .val (.long q1), .second, .val (.int s2), .val (.long q2), .second, .val (.int fl), .val (.int v85), .val (.long v88), .second, .val (.int v94), .val (.long v98), .second, .unset, .unset, .unset, .unset, .unset, .unset, .unset, .unset] [(.long v88), (.int v85), (.ref b100), (.ref b100)])) rfl (by rw [hml]; rfl) (Steps.refl _) (a := b100) (argsL := [(.int v85), (.long v88)]) (rest := [(.ref b100)]) (lenOf pd_2 rfl) rfl (by show 2 * 0 + _ ≤ _; exact Nat.le_of_eq rfl) (hb hby at_59) (fun _ _ => ⟨rfl, e100, (by decide : 1 + 0 ≤ _), (by decide : 2 + 0 ≤ _)⟩)
  dsimp only [Pt.U, Pt.locs, Pt.cells, Pt.slots] at X106 l106 y106 z106 st106 hQ106
  subst l106 y106 z106
  obtain ⟨h106, e106⟩ : ∃ z, T106.heap = z := ⟨_, rfl⟩
  rw [e106] at hQ106
  obtain ⟨rfl, N106q, K106q, F107, F108⟩ := hQ106
  have z109 : n0 ≤ h106.size := Nat.le_trans z102 K106q.1
  have N106 := Fr.app N0 N106q
  have S110 : ∀ t, Steps p.tables e below (T106.setTop (mkF m 64 #[.val (.int s1), .val (.long q1), .second, .val (.int s2), .val (.long q2), .second, .val (.int fl), .val (.int v85), .val (.long v88), .second, .val (.int v94), .val (.long v98), .second, .val (.ref b100), .unset, .unset, .unset, .unset, .unset, .unset, .unset] [])) t → Steps p.tables e below (T106.setTop (mkF m 62 #[.val (.int s1), .val (.long q1), .second, .val (.int s2), .val (.long q2), .second, .val (.int fl), .val (.int v85), .val (.long v88), .second, .val (.int v94), .val (.long v98), .second, .unset, .unset, .unset, .unset, .unset, .unset, .unset, .unset] [(.ref b100)])) t := by
    intro t kt
    show Steps p.tables e below (T106.setTop (mkF m 62 #[.val (.int s1), .val (.long q1), .second, .val (.int s2), .val (.long q2), .second, .val (.int fl), .val (.int v85), .val (.long v88), .second, .val (.int v94), .val (.long v98), .second, .unset, .unset, .unset, .unset, .unset, .unset, .unset, .unset] [(.ref b100)])) _
    refine XS.astore X106.here hx rfl (hb hby at_62) rfl rfl (l' := #[.val (.int s1), .val (.long q1), .second, .val (.int s2), .val (.long q2), .second, .val (.int fl), .val (.int v85), .val (.long v88), .second, .val (.int v94), .val (.long v98), .second, .val (.ref b100), .unset, .unset, .unset, .unset, .unset, .unset, .unset]) rfl ?_
    exact kt
  obtain ⟨T111, h111, X111, e111, E111, A111, D111, -, st111⟩ := newO X106 hx hZ hown (hw _ (List.mem_of_getElem? (i := 2) rfl)) (hw _ (List.mem_of_getElem? (i := 3) rfl)) (hw _ (List.mem_of_getElem? (i := 4) rfl)) e106 (g := (mkF m 64 #[.val (.int s1), .val (.long q1), .second, .val (.int s2), .val (.long q2), .second, .val (.int fl), .val (.int v85), .val (.long v88), .second, .val (.int v94), .val (.long v98), .second, .val (.ref b100), .unset, .unset, .unset, .unset, .unset, .unset, .unset] [])) rfl (hb hby at_64) (by decide) (by decide)
  obtain ⟨b111, g111⟩ : ∃ z, z = h106.size := ⟨_, rfl⟩
  rw [← g111] at A111 D111 st111
  have g_b111 : n0 ≤ b111 := Nat.le_trans z109 (Nat.le_of_eq g111.symm)
  have K112 := ((K101.ext E100).trans K106q (allS (Or.inr sz_b100) all0))
  have sz_b111 : h0.size ≤ b111 := Nat.le_trans K112.1 (Nat.le_of_eq g111.symm)
  have f113 := (A100.keep K106q)
  have ne_b100_b111 : b100 ≠ b111 := Nat.ne_of_lt (Nat.lt_of_lt_of_le f113.lt (Nat.le_of_eq g111.symm))
  have z114 : n0 ≤ h111.size := Nat.le_trans z109 E111.1
  have F115 : Fld Z h111 b111 "com/example/totality/totality/core/Label" "sender" "I" (.int (0 : Int32)) := D111 (Or.inr (hw _ (List.mem_of_getElem? (i := 17) rfl))) (ty := .int) (by decide)
  have F116 : Fld Z h111 b111 "com/example/totality/totality/core/Label" "sequence" "J" (.long (0 : Int64)) := D111 (Or.inr (hw _ (List.mem_of_getElem? (i := 19) rfl))) (ty := .long) (by decide)
  have S117 : ∀ t, Steps p.tables e below (T111.setTop (mkF m 72 #[.val (.int s1), .val (.long q1), .second, .val (.int s2), .val (.long q2), .second, .val (.int fl), .val (.int v85), .val (.long v88), .second, .val (.int v94), .val (.long v98), .second, .val (.ref b100), .unset, .unset, .unset, .unset, .unset, .unset, .unset] [(.long v98), (.int v94), (.ref b111), (.ref b111)])) t → Steps p.tables e below (T111.setTop (mkF m 67 #[.val (.int s1), .val (.long q1), .second, .val (.int s2), .val (.long q2), .second, .val (.int fl), .val (.int v85), .val (.long v88), .second, .val (.int v94), .val (.long v98), .second, .val (.ref b100), .unset, .unset, .unset, .unset, .unset, .unset, .unset] [(.ref b111)])) t := by
    intro t kt
    show Steps p.tables e below (T111.setTop (mkF m 67 #[.val (.int s1), .val (.long q1), .second, .val (.int s2), .val (.long q2), .second, .val (.int fl), .val (.int v85), .val (.long v88), .second, .val (.int v94), .val (.long v98), .second, .val (.ref b100), .unset, .unset, .unset, .unset, .unset, .unset, .unset] [(.ref b111)])) _
    refine XS.dup X111.here hx rfl (hb hby at_67) rfl rfl ?_
    show Steps p.tables e below (T111.setTop (mkF m 68 #[.val (.int s1), .val (.long q1), .second, .val (.int s2), .val (.long q2), .second, .val (.int fl), .val (.int v85), .val (.long v88), .second, .val (.int v94), .val (.long v98), .second, .val (.ref b100), .unset, .unset, .unset, .unset, .unset, .unset, .unset] [(.ref b111), (.ref b111)])) _
    refine XS.iload X111.here hx rfl (hb hby at_68) rfl ?_
    show Steps p.tables e below (T111.setTop (mkF m 70 #[.val (.int s1), .val (.long q1), .second, .val (.int s2), .val (.long q2), .second, .val (.int fl), .val (.int v85), .val (.long v88), .second, .val (.int v94), .val (.long v98), .second, .val (.ref b100), .unset, .unset, .unset, .unset, .unset, .unset, .unset] [(.int v94), (.ref b111), (.ref b111)])) _
    refine XS.lload X111.here hx rfl (hb hby at_70) rfl ?_
    exact kt
  obtain ⟨_, _, ⟨T118, L118, k118, n118⟩, -, X118, ⟨Lc118, hQ118, l118, y118, z118⟩, st118⟩ := X111.specialBack hx (y := (⟨"com/example/totality/totality/core/Label", "<init>", "(IJ)V"⟩ : MethodName)) rfl hown (mvT hZ (hw _ (List.mem_of_getElem? (i := 5) rfl))) (mvT hZ (hw _ (List.mem_of_getElem? (i := 6) rfl))) (mvT hZ (hw _ (List.mem_of_getElem? (i := 7) rfl))) (by decide) (backOf (W := 1) (rm1 l Z a0 hw [] b111 v94 v98 h111 n0 z114 A111 F115 F116 g_b111 hsb hqb) hZ (hw _ (List.mem_of_getElem? (i := 7) rfl)) (hw _ (List.mem_of_getElem? (i := 4) rfl)) (by decide) (by decide)) (g := (mkF m 72 #[.val (.int s1), .val (.long q1), .second, .val (.int s2), .val (.long q2), .second, .val (.int fl), .val (.int v85), .val (.long v88), .second, .val (.int v94), .val (.long v98), .second, .val (.ref b100), .unset, .unset, .unset, .unset, .unset, .unset, .unset] [(.long v98), (.int v94), (.ref b111), (.ref b111)])) rfl (by rw [hml]; rfl) (Steps.refl _) (a := b111) (argsL := [(.int v94), (.long v98)]) (rest := [(.ref b111)]) (lenOf pd_2 rfl) rfl (by show 2 * 0 + _ ≤ _; exact Nat.le_of_eq rfl) (hb hby at_72) (fun _ _ => ⟨rfl, e111, (by decide : 2 + 0 ≤ _), (by decide : 4 + 0 ≤ _)⟩)
  dsimp only [Pt.U, Pt.locs, Pt.cells, Pt.slots] at X118 l118 y118 z118 st118 hQ118
  subst l118 y118 z118
  obtain ⟨h118, e118⟩ : ∃ z, T118.heap = z := ⟨_, rfl⟩
  rw [e118] at hQ118
  obtain ⟨rfl, N118q, K118q, F119, F120⟩ := hQ118
  have z121 : n0 ≤ h118.size := Nat.le_trans z114 K118q.1
  have N118 := Fr.app N106 N118q
  have S122 : ∀ t, Steps p.tables e below (T118.setTop (mkF m 81 #[.val (.int s1), .val (.long q1), .second, .val (.int s2), .val (.long q2), .second, .val (.int fl), .val (.int v85), .val (.long v88), .second, .val (.int v94), .val (.long v98), .second, .val (.ref b100), .val (.ref b111), .unset, .unset, .unset, .unset, .unset, .unset] [(.int v94), (.int v85)])) t → Steps p.tables e below (T118.setTop (mkF m 75 #[.val (.int s1), .val (.long q1), .second, .val (.int s2), .val (.long q2), .second, .val (.int fl), .val (.int v85), .val (.long v88), .second, .val (.int v94), .val (.long v98), .second, .val (.ref b100), .unset, .unset, .unset, .unset, .unset, .unset, .unset] [(.ref b111)])) t := by
    intro t kt
    show Steps p.tables e below (T118.setTop (mkF m 75 #[.val (.int s1), .val (.long q1), .second, .val (.int s2), .val (.long q2), .second, .val (.int fl), .val (.int v85), .val (.long v88), .second, .val (.int v94), .val (.long v98), .second, .val (.ref b100), .unset, .unset, .unset, .unset, .unset, .unset, .unset] [(.ref b111)])) _
    refine XS.astore X118.here hx rfl (hb hby at_75) rfl rfl (l' := #[.val (.int s1), .val (.long q1), .second, .val (.int s2), .val (.long q2), .second, .val (.int fl), .val (.int v85), .val (.long v88), .second, .val (.int v94), .val (.long v98), .second, .val (.ref b100), .val (.ref b111), .unset, .unset, .unset, .unset, .unset, .unset]) rfl ?_
    show Steps p.tables e below (T118.setTop (mkF m 77 #[.val (.int s1), .val (.long q1), .second, .val (.int s2), .val (.long q2), .second, .val (.int fl), .val (.int v85), .val (.long v88), .second, .val (.int v94), .val (.long v98), .second, .val (.ref b100), .val (.ref b111), .unset, .unset, .unset, .unset, .unset, .unset] [])) _
    refine XS.iload X118.here hx rfl (hb hby at_77) rfl ?_
    show Steps p.tables e below (T118.setTop (mkF m 79 #[.val (.int s1), .val (.long q1), .second, .val (.int s2), .val (.long q2), .second, .val (.int fl), .val (.int v85), .val (.long v88), .second, .val (.int v94), .val (.long v98), .second, .val (.ref b100), .val (.ref b111), .unset, .unset, .unset, .unset, .unset, .unset] [(.int v85)])) _
    refine XS.iload X118.here hx rfl (hb hby at_79) rfl ?_
    exact kt
  obtain ⟨v126, hv126⟩ : ∃ z : Int32, z = (if v85 = v94 then (if v88 = v98 then (1 : Int32) else (0 : Int32)) else (0 : Int32)) := ⟨_, rfl⟩
  have S125 : ∀ t, Steps p.tables e below (T118.setTop (mkF m 97 #[.val (.int s1), .val (.long q1), .second, .val (.int s2), .val (.long q2), .second, .val (.int fl), .val (.int v85), .val (.long v88), .second, .val (.int v94), .val (.long v98), .second, .val (.ref b100), .val (.ref b111), .unset, .unset, .unset, .unset, .unset, .unset] [(.int v126)])) t → Steps p.tables e below (T118.setTop (mkF m 81 #[.val (.int s1), .val (.long q1), .second, .val (.int s2), .val (.long q2), .second, .val (.int fl), .val (.int v85), .val (.long v88), .second, .val (.int v94), .val (.long v98), .second, .val (.ref b100), .val (.ref b111), .unset, .unset, .unset, .unset, .unset, .unset] [(.int v94), (.int v85)])) t := by
    intro t kt
    subst hv126
    by_cases hc123 : v85 = v94
    · by_cases hc124 : v88 = v98
      · simp only [if_pos hc123, if_pos hc124] at kt
        show Steps p.tables e below (T118.setTop (mkF m 81 #[.val (.int s1), .val (.long q1), .second, .val (.int s2), .val (.long q2), .second, .val (.int fl), .val (.int v85), .val (.long v88), .second, .val (.int v94), .val (.long v98), .second, .val (.ref b100), .val (.ref b111), .unset, .unset, .unset, .unset, .unset, .unset] [(.int v94), (.int v85)])) _
        refine XS.icmpNo X118.here hx rfl (hb hby at_81) rfl (teq hc123).2 ?_
        show Steps p.tables e below (T118.setTop (mkF m 84 #[.val (.int s1), .val (.long q1), .second, .val (.int s2), .val (.long q2), .second, .val (.int fl), .val (.int v85), .val (.long v88), .second, .val (.int v94), .val (.long v98), .second, .val (.ref b100), .val (.ref b111), .unset, .unset, .unset, .unset, .unset, .unset] [])) _
        refine XS.lload X118.here hx rfl (hb hby at_84) rfl ?_
        show Steps p.tables e below (T118.setTop (mkF m 86 #[.val (.int s1), .val (.long q1), .second, .val (.int s2), .val (.long q2), .second, .val (.int fl), .val (.int v85), .val (.long v88), .second, .val (.int v94), .val (.long v98), .second, .val (.ref b100), .val (.ref b111), .unset, .unset, .unset, .unset, .unset, .unset] [(.long v88)])) _
        refine XS.lload X118.here hx rfl (hb hby at_86) rfl ?_
        show Steps p.tables e below (T118.setTop (mkF m 88 #[.val (.int s1), .val (.long q1), .second, .val (.int s2), .val (.long q2), .second, .val (.int fl), .val (.int v85), .val (.long v88), .second, .val (.int v94), .val (.long v98), .second, .val (.ref b100), .val (.ref b111), .unset, .unset, .unset, .unset, .unset, .unset] [(.long v98), (.long v88)])) _
        refine XS.lcmp X118.here hx rfl (hb hby at_88) rfl ?_
        show Steps p.tables e below (T118.setTop (mkF m 89 #[.val (.int s1), .val (.long q1), .second, .val (.int s2), .val (.long q2), .second, .val (.int fl), .val (.int v85), .val (.long v88), .second, .val (.int v94), .val (.long v98), .second, .val (.ref b100), .val (.ref b111), .unset, .unset, .unset, .unset, .unset, .unset] [(.int (lcmpW v88 v98))])) _
        refine XS.ifNo X118.here hx rfl (hb hby at_89) rfl ((if0 _ _).trans (teq ((lw_eq v88 v98).mpr hc124)).2) ?_
        show Steps p.tables e below (T118.setTop (mkF m 92 #[.val (.int s1), .val (.long q1), .second, .val (.int s2), .val (.long q2), .second, .val (.int fl), .val (.int v85), .val (.long v88), .second, .val (.int v94), .val (.long v98), .second, .val (.ref b100), .val (.ref b111), .unset, .unset, .unset, .unset, .unset, .unset] [])) _
        refine XS.iconst X118.here hx rfl (hb hby at_92) ?_
        show Steps p.tables e below (T118.setTop (mkF m 93 #[.val (.int s1), .val (.long q1), .second, .val (.int s2), .val (.long q2), .second, .val (.int fl), .val (.int v85), .val (.long v88), .second, .val (.int v94), .val (.long v98), .second, .val (.ref b100), .val (.ref b111), .unset, .unset, .unset, .unset, .unset, .unset] [(.int (1 : Int32))])) _
        refine XS.goto X118.here hx rfl (pc0 := 93) (pc' := 97) rfl (hb hby at_93) (by decide) (by decide) ?_
        exact kt
      · simp only [if_pos hc123, if_neg hc124] at kt
        show Steps p.tables e below (T118.setTop (mkF m 81 #[.val (.int s1), .val (.long q1), .second, .val (.int s2), .val (.long q2), .second, .val (.int fl), .val (.int v85), .val (.long v88), .second, .val (.int v94), .val (.long v98), .second, .val (.ref b100), .val (.ref b111), .unset, .unset, .unset, .unset, .unset, .unset] [(.int v94), (.int v85)])) _
        refine XS.icmpNo X118.here hx rfl (hb hby at_81) rfl (teq hc123).2 ?_
        show Steps p.tables e below (T118.setTop (mkF m 84 #[.val (.int s1), .val (.long q1), .second, .val (.int s2), .val (.long q2), .second, .val (.int fl), .val (.int v85), .val (.long v88), .second, .val (.int v94), .val (.long v98), .second, .val (.ref b100), .val (.ref b111), .unset, .unset, .unset, .unset, .unset, .unset] [])) _
        refine XS.lload X118.here hx rfl (hb hby at_84) rfl ?_
        show Steps p.tables e below (T118.setTop (mkF m 86 #[.val (.int s1), .val (.long q1), .second, .val (.int s2), .val (.long q2), .second, .val (.int fl), .val (.int v85), .val (.long v88), .second, .val (.int v94), .val (.long v98), .second, .val (.ref b100), .val (.ref b111), .unset, .unset, .unset, .unset, .unset, .unset] [(.long v88)])) _
        refine XS.lload X118.here hx rfl (hb hby at_86) rfl ?_
        show Steps p.tables e below (T118.setTop (mkF m 88 #[.val (.int s1), .val (.long q1), .second, .val (.int s2), .val (.long q2), .second, .val (.int fl), .val (.int v85), .val (.long v88), .second, .val (.int v94), .val (.long v98), .second, .val (.ref b100), .val (.ref b111), .unset, .unset, .unset, .unset, .unset, .unset] [(.long v98), (.long v88)])) _
        refine XS.lcmp X118.here hx rfl (hb hby at_88) rfl ?_
        show Steps p.tables e below (T118.setTop (mkF m 89 #[.val (.int s1), .val (.long q1), .second, .val (.int s2), .val (.long q2), .second, .val (.int fl), .val (.int v85), .val (.long v88), .second, .val (.int v94), .val (.long v98), .second, .val (.ref b100), .val (.ref b111), .unset, .unset, .unset, .unset, .unset, .unset] [(.int (lcmpW v88 v98))])) _
        refine XS.ifYes X118.here hx rfl (pc0 := 89) (pc' := 96) rfl (hb hby at_89) rfl ((if0 _ _).trans (feq (fun q => hc124 ((lw_eq v88 v98).mp q))).2) (by decide) (by decide) ?_
        show Steps p.tables e below (T118.setTop (mkF m 96 #[.val (.int s1), .val (.long q1), .second, .val (.int s2), .val (.long q2), .second, .val (.int fl), .val (.int v85), .val (.long v88), .second, .val (.int v94), .val (.long v98), .second, .val (.ref b100), .val (.ref b111), .unset, .unset, .unset, .unset, .unset, .unset] [])) _
        refine XS.iconst X118.here hx rfl (hb hby at_96) ?_
        exact kt
    · simp only [if_neg hc123] at kt
      show Steps p.tables e below (T118.setTop (mkF m 81 #[.val (.int s1), .val (.long q1), .second, .val (.int s2), .val (.long q2), .second, .val (.int fl), .val (.int v85), .val (.long v88), .second, .val (.int v94), .val (.long v98), .second, .val (.ref b100), .val (.ref b111), .unset, .unset, .unset, .unset, .unset, .unset] [(.int v94), (.int v85)])) _
      refine XS.icmpYes X118.here hx rfl (pc0 := 81) (pc' := 96) rfl (hb hby at_81) rfl (feq hc123).2 (by decide) (by decide) ?_
      show Steps p.tables e below (T118.setTop (mkF m 96 #[.val (.int s1), .val (.long q1), .second, .val (.int s2), .val (.long q2), .second, .val (.int fl), .val (.int v85), .val (.long v88), .second, .val (.int v94), .val (.long v98), .second, .val (.ref b100), .val (.ref b111), .unset, .unset, .unset, .unset, .unset, .unset] [])) _
      refine XS.iconst X118.here hx rfl (hb hby at_96) ?_
      exact kt
  have he : own_eq v85 v94 v88 v98 = v126 := by rw [hv126]; rfl
  have f128 := ((F107.ext E111).keep K118q (ninS ne_b100_b111 nin0))
  have f129 := ((F108.ext E111).keep K118q (ninS ne_b100_b111 nin0))
  have f130 := (A111.keep K118q)
  have S131 : ∀ t, Steps p.tables e below (T118.setTop (mkF m 103 #[.val (.int s1), .val (.long q1), .second, .val (.int s2), .val (.long q2), .second, .val (.int fl), .val (.int v85), .val (.long v88), .second, .val (.int v94), .val (.long v98), .second, .val (.ref b100), .val (.ref b111), .val (.int v126), .unset, .unset, .unset, .unset, .unset] [(.ref b111), (.ref b100)])) t → Steps p.tables e below (T118.setTop (mkF m 97 #[.val (.int s1), .val (.long q1), .second, .val (.int s2), .val (.long q2), .second, .val (.int fl), .val (.int v85), .val (.long v88), .second, .val (.int v94), .val (.long v98), .second, .val (.ref b100), .val (.ref b111), .unset, .unset, .unset, .unset, .unset, .unset] [(.int v126)])) t := by
    intro t kt
    show Steps p.tables e below (T118.setTop (mkF m 97 #[.val (.int s1), .val (.long q1), .second, .val (.int s2), .val (.long q2), .second, .val (.int fl), .val (.int v85), .val (.long v88), .second, .val (.int v94), .val (.long v98), .second, .val (.ref b100), .val (.ref b111), .unset, .unset, .unset, .unset, .unset, .unset] [(.int v126)])) _
    refine XS.istore X118.here hx rfl (hb hby at_97) rfl (l' := #[.val (.int s1), .val (.long q1), .second, .val (.int s2), .val (.long q2), .second, .val (.int fl), .val (.int v85), .val (.long v88), .second, .val (.int v94), .val (.long v98), .second, .val (.ref b100), .val (.ref b111), .val (.int v126), .unset, .unset, .unset, .unset, .unset]) rfl ?_
    show Steps p.tables e below (T118.setTop (mkF m 99 #[.val (.int s1), .val (.long q1), .second, .val (.int s2), .val (.long q2), .second, .val (.int fl), .val (.int v85), .val (.long v88), .second, .val (.int v94), .val (.long v98), .second, .val (.ref b100), .val (.ref b111), .val (.int v126), .unset, .unset, .unset, .unset, .unset] [])) _
    refine XS.aload X118.here hx rfl (hb hby at_99) rfl rfl ?_
    show Steps p.tables e below (T118.setTop (mkF m 101 #[.val (.int s1), .val (.long q1), .second, .val (.int s2), .val (.long q2), .second, .val (.int fl), .val (.int v85), .val (.long v88), .second, .val (.int v94), .val (.long v98), .second, .val (.ref b100), .val (.ref b111), .val (.int v126), .unset, .unset, .unset, .unset, .unset] [(.ref b100)])) _
    refine XS.aload X118.here hx rfl (hb hby at_101) rfl rfl ?_
    exact kt
  have f133 := ((f113.ext E111).keep K118q)
  obtain ⟨cq132, kq132, q132a, q132b, q132c⟩ := isOf hZ e118 f133
  obtain ⟨_, _, ⟨T132, L132, k132, n132⟩, -, X132, ⟨Lc132, hQ132, l132, y132, z132⟩, st132⟩ := X118.virtualBack hx (y := (⟨"com/example/totality/totality/core/Label", "equals", "(Ljava/lang/Object;)Z"⟩ : MethodName)) (z := (⟨"com/example/totality/totality/core/Label", "equals", "(Ljava/lang/Object;)Z"⟩ : MethodName)) hown (mvT hZ (hw _ (List.mem_of_getElem? (i := 20) rfl))) (mvT hZ (hw _ (List.mem_of_getElem? (i := 21) rfl))) (notFace_of_selects (args := #[]) (mvT hZ (hw _ (List.mem_of_getElem? (i := 23) rfl)))) (mvT hZ (hw _ (List.mem_of_getElem? (i := 23) rfl))) (mvT hZ (hw _ (List.mem_of_getElem? (i := 22) rfl))) (by decide) (backOf (W := 0) (rm_e2 l Z a0 hw [] b100 b111 v85 v88 v94 v98 h118 n0 z121 f128 f129 f130 F119 F120 ne_b100_b111) hZ (hw _ (List.mem_of_getElem? (i := 24) rfl)) (hw _ (List.mem_of_getElem? (i := 4) rfl)) (by decide) (by decide)) q132a q132c (g := (mkF m 103 #[.val (.int s1), .val (.long q1), .second, .val (.int s2), .val (.long q2), .second, .val (.int fl), .val (.int v85), .val (.long v88), .second, .val (.int v94), .val (.long v98), .second, .val (.ref b100), .val (.ref b111), .val (.int v126), .unset, .unset, .unset, .unset, .unset] [(.ref b111), (.ref b100)])) rfl (by rw [hml]; rfl) (Steps.refl _) (argsL := [(.ref b111)]) (rest := []) (lenOf pd_3 rfl) rfl (by show 2 * 0 + _ ≤ _; exact Nat.le_of_eq rfl) (hb hby at_103) (fun _ _ => ⟨rfl, e118, (by decide : 2 + 0 ≤ _), (by decide : 4 + 0 ≤ _)⟩)
  dsimp only [Pt.U, Pt.locs, Pt.cells, Pt.slots] at X132 l132 y132 z132 st132 hQ132
  subst l132 y132 z132
  obtain ⟨rfl, N132q, e132⟩ := hQ132
  have N132 := Fr.app N118 N132q
  have S134 : ∀ t, Steps p.tables e below (T132.setTop (mkF m 112 #[.val (.int s1), .val (.long q1), .second, .val (.int s2), .val (.long q2), .second, .val (.int fl), .val (.int v85), .val (.long v88), .second, .val (.int v94), .val (.long v98), .second, .val (.ref b100), .val (.ref b111), .val (.int v126), .val (.int (own_eq v85 v94 v88 v98)), .unset, .unset, .unset, .unset] [(.ref b100), (.ref b111)])) t → Steps p.tables e below (T132.setTop (mkF m 106 #[.val (.int s1), .val (.long q1), .second, .val (.int s2), .val (.long q2), .second, .val (.int fl), .val (.int v85), .val (.long v88), .second, .val (.int v94), .val (.long v98), .second, .val (.ref b100), .val (.ref b111), .val (.int v126), .unset, .unset, .unset, .unset, .unset] [(.int (own_eq v85 v94 v88 v98))])) t := by
    intro t kt
    show Steps p.tables e below (T132.setTop (mkF m 106 #[.val (.int s1), .val (.long q1), .second, .val (.int s2), .val (.long q2), .second, .val (.int fl), .val (.int v85), .val (.long v88), .second, .val (.int v94), .val (.long v98), .second, .val (.ref b100), .val (.ref b111), .val (.int v126), .unset, .unset, .unset, .unset, .unset] [(.int (own_eq v85 v94 v88 v98))])) _
    refine XS.istore X132.here hx rfl (hb hby at_106) rfl (l' := #[.val (.int s1), .val (.long q1), .second, .val (.int s2), .val (.long q2), .second, .val (.int fl), .val (.int v85), .val (.long v88), .second, .val (.int v94), .val (.long v98), .second, .val (.ref b100), .val (.ref b111), .val (.int v126), .val (.int (own_eq v85 v94 v88 v98)), .unset, .unset, .unset, .unset]) rfl ?_
    show Steps p.tables e below (T132.setTop (mkF m 108 #[.val (.int s1), .val (.long q1), .second, .val (.int s2), .val (.long q2), .second, .val (.int fl), .val (.int v85), .val (.long v88), .second, .val (.int v94), .val (.long v98), .second, .val (.ref b100), .val (.ref b111), .val (.int v126), .val (.int (own_eq v85 v94 v88 v98)), .unset, .unset, .unset, .unset] [])) _
    refine XS.aload X132.here hx rfl (hb hby at_108) rfl rfl ?_
    show Steps p.tables e below (T132.setTop (mkF m 110 #[.val (.int s1), .val (.long q1), .second, .val (.int s2), .val (.long q2), .second, .val (.int fl), .val (.int v85), .val (.long v88), .second, .val (.int v94), .val (.long v98), .second, .val (.ref b100), .val (.ref b111), .val (.int v126), .val (.int (own_eq v85 v94 v88 v98)), .unset, .unset, .unset, .unset] [(.ref b111)])) _
    refine XS.aload X132.here hx rfl (hb hby at_110) rfl rfl ?_
    exact kt
  obtain ⟨cq135, kq135, q135a, q135b, q135c⟩ := isOf hZ e132 f130
  obtain ⟨_, _, ⟨T135, L135, k135, n135⟩, -, X135, ⟨Lc135, hQ135, l135, y135, z135⟩, st135⟩ := X132.virtualBack hx (y := (⟨"com/example/totality/totality/core/Label", "equals", "(Ljava/lang/Object;)Z"⟩ : MethodName)) (z := (⟨"com/example/totality/totality/core/Label", "equals", "(Ljava/lang/Object;)Z"⟩ : MethodName)) hown (mvT hZ (hw _ (List.mem_of_getElem? (i := 20) rfl))) (mvT hZ (hw _ (List.mem_of_getElem? (i := 21) rfl))) (notFace_of_selects (args := #[]) (mvT hZ (hw _ (List.mem_of_getElem? (i := 23) rfl)))) (mvT hZ (hw _ (List.mem_of_getElem? (i := 23) rfl))) (mvT hZ (hw _ (List.mem_of_getElem? (i := 22) rfl))) (by decide) (backOf (W := 0) (rm_e2 l Z a0 hw [] b111 b100 v94 v98 v85 v88 h118 n0 z121 F119 F120 f133 f128 f129 (Ne.symm ne_b100_b111)) hZ (hw _ (List.mem_of_getElem? (i := 24) rfl)) (hw _ (List.mem_of_getElem? (i := 4) rfl)) (by decide) (by decide)) q135a q135c (g := (mkF m 112 #[.val (.int s1), .val (.long q1), .second, .val (.int s2), .val (.long q2), .second, .val (.int fl), .val (.int v85), .val (.long v88), .second, .val (.int v94), .val (.long v98), .second, .val (.ref b100), .val (.ref b111), .val (.int v126), .val (.int (own_eq v85 v94 v88 v98)), .unset, .unset, .unset, .unset] [(.ref b100), (.ref b111)])) rfl (by rw [hml]; rfl) (Steps.refl _) (argsL := [(.ref b100)]) (rest := []) (lenOf pd_3 rfl) rfl (by show 2 * 0 + _ ≤ _; exact Nat.le_of_eq rfl) (hb hby at_112) (fun _ _ => ⟨rfl, e132, (by decide : 2 + 0 ≤ _), (by decide : 4 + 0 ≤ _)⟩)
  dsimp only [Pt.U, Pt.locs, Pt.cells, Pt.slots] at X135 l135 y135 z135 st135 hQ135
  subst l135 y135 z135
  obtain ⟨rfl, N135q, e135⟩ := hQ135
  have N135 := Fr.app N132 N135q
  have S136 : ∀ t, Steps p.tables e below (T135.setTop (mkF m 121 #[.val (.int s1), .val (.long q1), .second, .val (.int s2), .val (.long q2), .second, .val (.int fl), .val (.int v85), .val (.long v88), .second, .val (.int v94), .val (.long v98), .second, .val (.ref b100), .val (.ref b111), .val (.int v126), .val (.int (own_eq v85 v94 v88 v98)), .val (.int (own_eq v94 v85 v98 v88)), .unset, .unset, .unset] [(.ref b100), (.ref b100)])) t → Steps p.tables e below (T135.setTop (mkF m 115 #[.val (.int s1), .val (.long q1), .second, .val (.int s2), .val (.long q2), .second, .val (.int fl), .val (.int v85), .val (.long v88), .second, .val (.int v94), .val (.long v98), .second, .val (.ref b100), .val (.ref b111), .val (.int v126), .val (.int (own_eq v85 v94 v88 v98)), .unset, .unset, .unset, .unset] [(.int (own_eq v94 v85 v98 v88))])) t := by
    intro t kt
    show Steps p.tables e below (T135.setTop (mkF m 115 #[.val (.int s1), .val (.long q1), .second, .val (.int s2), .val (.long q2), .second, .val (.int fl), .val (.int v85), .val (.long v88), .second, .val (.int v94), .val (.long v98), .second, .val (.ref b100), .val (.ref b111), .val (.int v126), .val (.int (own_eq v85 v94 v88 v98)), .unset, .unset, .unset, .unset] [(.int (own_eq v94 v85 v98 v88))])) _
    refine XS.istore X135.here hx rfl (hb hby at_115) rfl (l' := #[.val (.int s1), .val (.long q1), .second, .val (.int s2), .val (.long q2), .second, .val (.int fl), .val (.int v85), .val (.long v88), .second, .val (.int v94), .val (.long v98), .second, .val (.ref b100), .val (.ref b111), .val (.int v126), .val (.int (own_eq v85 v94 v88 v98)), .val (.int (own_eq v94 v85 v98 v88)), .unset, .unset, .unset]) rfl ?_
    show Steps p.tables e below (T135.setTop (mkF m 117 #[.val (.int s1), .val (.long q1), .second, .val (.int s2), .val (.long q2), .second, .val (.int fl), .val (.int v85), .val (.long v88), .second, .val (.int v94), .val (.long v98), .second, .val (.ref b100), .val (.ref b111), .val (.int v126), .val (.int (own_eq v85 v94 v88 v98)), .val (.int (own_eq v94 v85 v98 v88)), .unset, .unset, .unset] [])) _
    refine XS.aload X135.here hx rfl (hb hby at_117) rfl rfl ?_
    show Steps p.tables e below (T135.setTop (mkF m 119 #[.val (.int s1), .val (.long q1), .second, .val (.int s2), .val (.long q2), .second, .val (.int fl), .val (.int v85), .val (.long v88), .second, .val (.int v94), .val (.long v98), .second, .val (.ref b100), .val (.ref b111), .val (.int v126), .val (.int (own_eq v85 v94 v88 v98)), .val (.int (own_eq v94 v85 v98 v88)), .unset, .unset, .unset] [(.ref b100)])) _
    refine XS.aload X135.here hx rfl (hb hby at_119) rfl rfl ?_
    exact kt
  obtain ⟨cq137, kq137, q137a, q137b, q137c⟩ := isOf hZ e135 f133
  obtain ⟨_, _, ⟨T137, L137, k137, n137⟩, -, X137, ⟨Lc137, hQ137, l137, y137, z137⟩, st137⟩ := X135.virtualBack hx (y := (⟨"com/example/totality/totality/core/Label", "equals", "(Ljava/lang/Object;)Z"⟩ : MethodName)) (z := (⟨"com/example/totality/totality/core/Label", "equals", "(Ljava/lang/Object;)Z"⟩ : MethodName)) hown (mvT hZ (hw _ (List.mem_of_getElem? (i := 20) rfl))) (mvT hZ (hw _ (List.mem_of_getElem? (i := 21) rfl))) (notFace_of_selects (args := #[]) (mvT hZ (hw _ (List.mem_of_getElem? (i := 23) rfl)))) (mvT hZ (hw _ (List.mem_of_getElem? (i := 23) rfl))) (mvT hZ (hw _ (List.mem_of_getElem? (i := 22) rfl))) (by decide) (backOf (W := 0) (rm_e1 l Z a0 hw [] b100 h118 n0 z121 ) hZ (hw _ (List.mem_of_getElem? (i := 24) rfl)) (hw _ (List.mem_of_getElem? (i := 4) rfl)) (by decide) (by decide)) q137a q137c (g := (mkF m 121 #[.val (.int s1), .val (.long q1), .second, .val (.int s2), .val (.long q2), .second, .val (.int fl), .val (.int v85), .val (.long v88), .second, .val (.int v94), .val (.long v98), .second, .val (.ref b100), .val (.ref b111), .val (.int v126), .val (.int (own_eq v85 v94 v88 v98)), .val (.int (own_eq v94 v85 v98 v88)), .unset, .unset, .unset] [(.ref b100), (.ref b100)])) rfl (by rw [hml]; rfl) (Steps.refl _) (argsL := [(.ref b100)]) (rest := []) (lenOf pd_3 rfl) rfl (by show 2 * 0 + _ ≤ _; exact Nat.le_of_eq rfl) (hb hby at_121) (fun _ _ => ⟨rfl, e135, (by decide : 2 + 0 ≤ _), (by decide : 4 + 0 ≤ _)⟩)
  dsimp only [Pt.U, Pt.locs, Pt.cells, Pt.slots] at X137 l137 y137 z137 st137 hQ137
  subst l137 y137 z137
  obtain ⟨rfl, N137q, e137⟩ := hQ137
  have N137 := Fr.app N135 N137q
  have S138 : ∀ t, Steps p.tables e below (T137.setTop (mkF m 129 #[.val (.int s1), .val (.long q1), .second, .val (.int s2), .val (.long q2), .second, .val (.int fl), .val (.int v85), .val (.long v88), .second, .val (.int v94), .val (.long v98), .second, .val (.ref b100), .val (.ref b111), .val (.int v126), .val (.int (own_eq v85 v94 v88 v98)), .val (.int (own_eq v94 v85 v98 v88)), .val (.int (1 : Int32)), .unset, .unset] [.null, (.ref b100)])) t → Steps p.tables e below (T137.setTop (mkF m 124 #[.val (.int s1), .val (.long q1), .second, .val (.int s2), .val (.long q2), .second, .val (.int fl), .val (.int v85), .val (.long v88), .second, .val (.int v94), .val (.long v98), .second, .val (.ref b100), .val (.ref b111), .val (.int v126), .val (.int (own_eq v85 v94 v88 v98)), .val (.int (own_eq v94 v85 v98 v88)), .unset, .unset, .unset] [(.int (1 : Int32))])) t := by
    intro t kt
    show Steps p.tables e below (T137.setTop (mkF m 124 #[.val (.int s1), .val (.long q1), .second, .val (.int s2), .val (.long q2), .second, .val (.int fl), .val (.int v85), .val (.long v88), .second, .val (.int v94), .val (.long v98), .second, .val (.ref b100), .val (.ref b111), .val (.int v126), .val (.int (own_eq v85 v94 v88 v98)), .val (.int (own_eq v94 v85 v98 v88)), .unset, .unset, .unset] [(.int (1 : Int32))])) _
    refine XS.istore X137.here hx rfl (hb hby at_124) rfl (l' := #[.val (.int s1), .val (.long q1), .second, .val (.int s2), .val (.long q2), .second, .val (.int fl), .val (.int v85), .val (.long v88), .second, .val (.int v94), .val (.long v98), .second, .val (.ref b100), .val (.ref b111), .val (.int v126), .val (.int (own_eq v85 v94 v88 v98)), .val (.int (own_eq v94 v85 v98 v88)), .val (.int (1 : Int32)), .unset, .unset]) rfl ?_
    show Steps p.tables e below (T137.setTop (mkF m 126 #[.val (.int s1), .val (.long q1), .second, .val (.int s2), .val (.long q2), .second, .val (.int fl), .val (.int v85), .val (.long v88), .second, .val (.int v94), .val (.long v98), .second, .val (.ref b100), .val (.ref b111), .val (.int v126), .val (.int (own_eq v85 v94 v88 v98)), .val (.int (own_eq v94 v85 v98 v88)), .val (.int (1 : Int32)), .unset, .unset] [])) _
    refine XS.aload X137.here hx rfl (hb hby at_126) rfl rfl ?_
    show Steps p.tables e below (T137.setTop (mkF m 128 #[.val (.int s1), .val (.long q1), .second, .val (.int s2), .val (.long q2), .second, .val (.int fl), .val (.int v85), .val (.long v88), .second, .val (.int v94), .val (.long v98), .second, .val (.ref b100), .val (.ref b111), .val (.int v126), .val (.int (own_eq v85 v94 v88 v98)), .val (.int (own_eq v94 v85 v98 v88)), .val (.int (1 : Int32)), .unset, .unset] [(.ref b100)])) _
    refine XS.aconstNull X137.here hx rfl (hb hby at_128) ?_
    exact kt
  obtain ⟨cq139, kq139, q139a, q139b, q139c⟩ := isOf hZ e137 f133
  obtain ⟨_, _, ⟨T139, L139, k139, n139⟩, -, X139, ⟨Lc139, hQ139, l139, y139, z139⟩, st139⟩ := X137.virtualBack hx (y := (⟨"com/example/totality/totality/core/Label", "equals", "(Ljava/lang/Object;)Z"⟩ : MethodName)) (z := (⟨"com/example/totality/totality/core/Label", "equals", "(Ljava/lang/Object;)Z"⟩ : MethodName)) hown (mvT hZ (hw _ (List.mem_of_getElem? (i := 20) rfl))) (mvT hZ (hw _ (List.mem_of_getElem? (i := 21) rfl))) (notFace_of_selects (args := #[]) (mvT hZ (hw _ (List.mem_of_getElem? (i := 23) rfl)))) (mvT hZ (hw _ (List.mem_of_getElem? (i := 23) rfl))) (mvT hZ (hw _ (List.mem_of_getElem? (i := 22) rfl))) (by decide) (backOf (W := 0) (rm_e3 l Z a0 hw [] b100 h118 n0 z121 ) hZ (hw _ (List.mem_of_getElem? (i := 24) rfl)) (hw _ (List.mem_of_getElem? (i := 4) rfl)) (by decide) (by decide)) q139a q139c (g := (mkF m 129 #[.val (.int s1), .val (.long q1), .second, .val (.int s2), .val (.long q2), .second, .val (.int fl), .val (.int v85), .val (.long v88), .second, .val (.int v94), .val (.long v98), .second, .val (.ref b100), .val (.ref b111), .val (.int v126), .val (.int (own_eq v85 v94 v88 v98)), .val (.int (own_eq v94 v85 v98 v88)), .val (.int (1 : Int32)), .unset, .unset] [.null, (.ref b100)])) rfl (by rw [hml]; rfl) (Steps.refl _) (argsL := [.null]) (rest := []) (lenOf pd_3 rfl) rfl (by show 2 * 0 + _ ≤ _; exact Nat.le_of_eq rfl) (hb hby at_129) (fun _ _ => ⟨rfl, e137, (by decide : 2 + 0 ≤ _), (by decide : 4 + 0 ≤ _)⟩)
  dsimp only [Pt.U, Pt.locs, Pt.cells, Pt.slots] at X139 l139 y139 z139 st139 hQ139
  subst l139 y139 z139
  obtain ⟨rfl, N139q, e139⟩ := hQ139
  have N139 := Fr.app N137 N139q
  have f140 := ((((O.ext E100).keep K106q (allS g_b100 all0)).ext E111).keep K118q (allS g_b111 all0))
  have S141 : ∀ t, Steps p.tables e below (T139.setTop (mkF m 138 #[.val (.int s1), .val (.long q1), .second, .val (.int s2), .val (.long q2), .second, .val (.int fl), .val (.int v85), .val (.long v88), .second, .val (.int v94), .val (.long v98), .second, .val (.ref b100), .val (.ref b111), .val (.int v126), .val (.int (own_eq v85 v94 v88 v98)), .val (.int (own_eq v94 v85 v98 v88)), .val (.int (1 : Int32)), .val (.int (0 : Int32)), .unset] [(.int v85), (.ref b100)])) t → Steps p.tables e below (T139.setTop (mkF m 132 #[.val (.int s1), .val (.long q1), .second, .val (.int s2), .val (.long q2), .second, .val (.int fl), .val (.int v85), .val (.long v88), .second, .val (.int v94), .val (.long v98), .second, .val (.ref b100), .val (.ref b111), .val (.int v126), .val (.int (own_eq v85 v94 v88 v98)), .val (.int (own_eq v94 v85 v98 v88)), .val (.int (1 : Int32)), .unset, .unset] [(.int (0 : Int32))])) t := by
    intro t kt
    show Steps p.tables e below (T139.setTop (mkF m 132 #[.val (.int s1), .val (.long q1), .second, .val (.int s2), .val (.long q2), .second, .val (.int fl), .val (.int v85), .val (.long v88), .second, .val (.int v94), .val (.long v98), .second, .val (.ref b100), .val (.ref b111), .val (.int v126), .val (.int (own_eq v85 v94 v88 v98)), .val (.int (own_eq v94 v85 v98 v88)), .val (.int (1 : Int32)), .unset, .unset] [(.int (0 : Int32))])) _
    refine XS.istore X139.here hx rfl (hb hby at_132) rfl (l' := #[.val (.int s1), .val (.long q1), .second, .val (.int s2), .val (.long q2), .second, .val (.int fl), .val (.int v85), .val (.long v88), .second, .val (.int v94), .val (.long v98), .second, .val (.ref b100), .val (.ref b111), .val (.int v126), .val (.int (own_eq v85 v94 v88 v98)), .val (.int (own_eq v94 v85 v98 v88)), .val (.int (1 : Int32)), .val (.int (0 : Int32)), .unset]) rfl ?_
    show Steps p.tables e below (T139.setTop (mkF m 134 #[.val (.int s1), .val (.long q1), .second, .val (.int s2), .val (.long q2), .second, .val (.int fl), .val (.int v85), .val (.long v88), .second, .val (.int v94), .val (.long v98), .second, .val (.ref b100), .val (.ref b111), .val (.int v126), .val (.int (own_eq v85 v94 v88 v98)), .val (.int (own_eq v94 v85 v98 v88)), .val (.int (1 : Int32)), .val (.int (0 : Int32)), .unset] [])) _
    refine XS.aload X139.here hx rfl (hb hby at_134) rfl rfl ?_
    show Steps p.tables e below (T139.setTop (mkF m 136 #[.val (.int s1), .val (.long q1), .second, .val (.int s2), .val (.long q2), .second, .val (.int fl), .val (.int v85), .val (.long v88), .second, .val (.int v94), .val (.long v98), .second, .val (.ref b100), .val (.ref b111), .val (.int v126), .val (.int (own_eq v85 v94 v88 v98)), .val (.int (own_eq v94 v85 v98 v88)), .val (.int (1 : Int32)), .val (.int (0 : Int32)), .unset] [(.ref b100)])) _
    refine XS.iload X139.here hx rfl (hb hby at_136) rfl ?_
    exact kt
  obtain ⟨_, _, ⟨T142, L142, k142, n142⟩, -, X142, ⟨Lc142, hQ142, l142, y142, z142⟩, st142⟩ := Jvm.LawKit.callS X139 hx (y := (⟨"java/lang/Integer", "valueOf", "(I)Ljava/lang/Integer;"⟩ : MethodName)) hown (mvT hZ (hw _ (List.mem_of_getElem? (i := 27) rfl))) (mvT hZ (hw _ (List.mem_of_getElem? (i := 28) rfl))) (mvT hZ (hw _ (List.mem_of_getElem? (i := 29) rfl))) (mvT hZ (hw _ (List.mem_of_getElem? (i := 30) rfl))) (by decide) (backOf (W := 1) (rm5 l Z a0 hw [] v85 h118 n0 z121 f140 HI hsa) hZ (hw _ (List.mem_of_getElem? (i := 30) rfl)) (hw _ (List.mem_of_getElem? (i := 29) rfl)) (by decide) (by decide)) (g := (mkF m 138 #[.val (.int s1), .val (.long q1), .second, .val (.int s2), .val (.long q2), .second, .val (.int fl), .val (.int v85), .val (.long v88), .second, .val (.int v94), .val (.long v98), .second, .val (.ref b100), .val (.ref b111), .val (.int v126), .val (.int (own_eq v85 v94 v88 v98)), .val (.int (own_eq v94 v85 v98 v88)), .val (.int (1 : Int32)), .val (.int (0 : Int32)), .unset] [(.int v85), (.ref b100)])) rfl (by rw [hml]; rfl) (argsL := [(.int v85)]) (rest := [(.ref b100)]) (lenOf pd_4 rfl) rfl (by show 2 * 0 + _ ≤ _; exact Nat.le_of_eq rfl) (hb hby at_138) (fun _ _ => ⟨rfl, e139, (by decide : 2 + 1 ≤ _), (by decide : 4 + 1 ≤ _)⟩)
  dsimp only [Pt.U, Pt.locs, Pt.cells, Pt.slots] at X142 l142 y142 z142 st142 hQ142
  subst l142 y142 z142
  obtain ⟨h142, e142⟩ : ∃ z, T142.heap = z := ⟨_, rfl⟩
  rw [e142] at hQ142
  obtain ⟨b127, rfl, N142q, K142q, F143⟩ := hQ142
  have z144 : n0 ≤ h142.size := Nat.le_trans z121 K142q.1
  have N142 := Fr.app N139 N142q
  have f145 := (f133.keep K142q)
  have ne_b100_b127 : b100 ≠ b127 := ne_exa f145 F143 (by decide)
  obtain ⟨cq146, kq146, q146a, q146b, q146c⟩ := isOf hZ e142 f145
  obtain ⟨_, _, ⟨T146, L146, k146, n146⟩, -, X146, ⟨Lc146, hQ146, l146, y146, z146⟩, st146⟩ := X142.virtualBack hx (y := (⟨"com/example/totality/totality/core/Label", "equals", "(Ljava/lang/Object;)Z"⟩ : MethodName)) (z := (⟨"com/example/totality/totality/core/Label", "equals", "(Ljava/lang/Object;)Z"⟩ : MethodName)) hown (mvT hZ (hw _ (List.mem_of_getElem? (i := 20) rfl))) (mvT hZ (hw _ (List.mem_of_getElem? (i := 21) rfl))) (notFace_of_selects (args := #[]) (mvT hZ (hw _ (List.mem_of_getElem? (i := 23) rfl)))) (mvT hZ (hw _ (List.mem_of_getElem? (i := 23) rfl))) (mvT hZ (hw _ (List.mem_of_getElem? (i := 22) rfl))) (by decide) (backOf (W := 0) (rm_e4 l Z a0 hw [] b100 b127 h142 n0 z144 F143 ne_b100_b127 (own_NSno (hw _ (List.mem_of_getElem? (i := 34) rfl)) (hw _ (List.mem_of_getElem? (i := 3) rfl)) (NS.step (hw _ (List.mem_of_getElem? (i := 34) rfl)) (NS.step (hw _ (List.mem_of_getElem? (i := 35) rfl)) (own_NSroot (hw _ (List.mem_of_getElem? (i := 36) rfl)) (hw _ (List.mem_of_getElem? (i := 3) rfl)) (by decide)) (by decide)) (by decide)) (by decide))) hZ (hw _ (List.mem_of_getElem? (i := 24) rfl)) (hw _ (List.mem_of_getElem? (i := 4) rfl)) (by decide) (by decide)) q146a q146c (g := (mkF m 141 #[.val (.int s1), .val (.long q1), .second, .val (.int s2), .val (.long q2), .second, .val (.int fl), .val (.int v85), .val (.long v88), .second, .val (.int v94), .val (.long v98), .second, .val (.ref b100), .val (.ref b111), .val (.int v126), .val (.int (own_eq v85 v94 v88 v98)), .val (.int (own_eq v94 v85 v98 v88)), .val (.int (1 : Int32)), .val (.int (0 : Int32)), .unset] [(.ref b127), (.ref b100)])) rfl (by rw [hml]; rfl) (Steps.refl _) (argsL := [(.ref b127)]) (rest := []) (lenOf pd_3 rfl) rfl (by show 2 * 0 + _ ≤ _; exact Nat.le_of_eq rfl) (hb hby at_141) (fun _ _ => ⟨rfl, e142, (by decide : 3 + 0 ≤ _), (by decide : 5 + 0 ≤ _)⟩)
  dsimp only [Pt.U, Pt.locs, Pt.cells, Pt.slots] at X146 l146 y146 z146 st146 hQ146
  subst l146 y146 z146
  obtain ⟨rfl, N146q, e146⟩ := hQ146
  have N146 := Fr.app N142 N146q
  have S147 : ∀ t, Steps p.tables e below (T146.setTop (mkF m 180 #[.val (.int s1), .val (.long q1), .second, .val (.int s2), .val (.long q2), .second, .val (.int fl), .val (.int v85), .val (.long v88), .second, .val (.int v94), .val (.long v98), .second, .val (.ref b100), .val (.ref b111), .val (.int v126), .val (.int (own_eq v85 v94 v88 v98)), .val (.int (own_eq v94 v85 v98 v88)), .val (.int (1 : Int32)), .val (.int (0 : Int32)), .val (.int (0 : Int32))] [(.int (1 : Int32))])) t → Steps p.tables e below (T146.setTop (mkF m 144 #[.val (.int s1), .val (.long q1), .second, .val (.int s2), .val (.long q2), .second, .val (.int fl), .val (.int v85), .val (.long v88), .second, .val (.int v94), .val (.long v98), .second, .val (.ref b100), .val (.ref b111), .val (.int v126), .val (.int (own_eq v85 v94 v88 v98)), .val (.int (own_eq v94 v85 v98 v88)), .val (.int (1 : Int32)), .val (.int (0 : Int32)), .unset] [(.int (0 : Int32))])) t := by
    intro t kt
    show Steps p.tables e below (T146.setTop (mkF m 144 #[.val (.int s1), .val (.long q1), .second, .val (.int s2), .val (.long q2), .second, .val (.int fl), .val (.int v85), .val (.long v88), .second, .val (.int v94), .val (.long v98), .second, .val (.ref b100), .val (.ref b111), .val (.int v126), .val (.int (own_eq v85 v94 v88 v98)), .val (.int (own_eq v94 v85 v98 v88)), .val (.int (1 : Int32)), .val (.int (0 : Int32)), .unset] [(.int (0 : Int32))])) _
    refine XS.istore X146.here hx rfl (hb hby at_144) rfl (l' := #[.val (.int s1), .val (.long q1), .second, .val (.int s2), .val (.long q2), .second, .val (.int fl), .val (.int v85), .val (.long v88), .second, .val (.int v94), .val (.long v98), .second, .val (.ref b100), .val (.ref b111), .val (.int v126), .val (.int (own_eq v85 v94 v88 v98)), .val (.int (own_eq v94 v85 v98 v88)), .val (.int (1 : Int32)), .val (.int (0 : Int32)), .val (.int (0 : Int32))]) rfl ?_
    show Steps p.tables e below (T146.setTop (mkF m 146 #[.val (.int s1), .val (.long q1), .second, .val (.int s2), .val (.long q2), .second, .val (.int fl), .val (.int v85), .val (.long v88), .second, .val (.int v94), .val (.long v98), .second, .val (.ref b100), .val (.ref b111), .val (.int v126), .val (.int (own_eq v85 v94 v88 v98)), .val (.int (own_eq v94 v85 v98 v88)), .val (.int (1 : Int32)), .val (.int (0 : Int32)), .val (.int (0 : Int32))] [])) _
    refine XS.iload X146.here hx rfl (hb hby at_146) rfl ?_
    show Steps p.tables e below (T146.setTop (mkF m 148 #[.val (.int s1), .val (.long q1), .second, .val (.int s2), .val (.long q2), .second, .val (.int fl), .val (.int v85), .val (.long v88), .second, .val (.int v94), .val (.long v98), .second, .val (.ref b100), .val (.ref b111), .val (.int v126), .val (.int (own_eq v85 v94 v88 v98)), .val (.int (own_eq v94 v85 v98 v88)), .val (.int (1 : Int32)), .val (.int (0 : Int32)), .val (.int (0 : Int32))] [(.int (own_eq v85 v94 v88 v98))])) _
    refine XS.iload X146.here hx rfl (hb hby at_148) rfl ?_
    show Steps p.tables e below (T146.setTop (mkF m 150 #[.val (.int s1), .val (.long q1), .second, .val (.int s2), .val (.long q2), .second, .val (.int fl), .val (.int v85), .val (.long v88), .second, .val (.int v94), .val (.long v98), .second, .val (.ref b100), .val (.ref b111), .val (.int v126), .val (.int (own_eq v85 v94 v88 v98)), .val (.int (own_eq v94 v85 v98 v88)), .val (.int (1 : Int32)), .val (.int (0 : Int32)), .val (.int (0 : Int32))] [(.int v126), (.int (own_eq v85 v94 v88 v98))])) _
    refine XS.icmpNo X146.here hx rfl (hb hby at_150) rfl (teq he).2 ?_
    show Steps p.tables e below (T146.setTop (mkF m 153 #[.val (.int s1), .val (.long q1), .second, .val (.int s2), .val (.long q2), .second, .val (.int fl), .val (.int v85), .val (.long v88), .second, .val (.int v94), .val (.long v98), .second, .val (.ref b100), .val (.ref b111), .val (.int v126), .val (.int (own_eq v85 v94 v88 v98)), .val (.int (own_eq v94 v85 v98 v88)), .val (.int (1 : Int32)), .val (.int (0 : Int32)), .val (.int (0 : Int32))] [])) _
    refine XS.iload X146.here hx rfl (hb hby at_153) rfl ?_
    show Steps p.tables e below (T146.setTop (mkF m 155 #[.val (.int s1), .val (.long q1), .second, .val (.int s2), .val (.long q2), .second, .val (.int fl), .val (.int v85), .val (.long v88), .second, .val (.int v94), .val (.long v98), .second, .val (.ref b100), .val (.ref b111), .val (.int v126), .val (.int (own_eq v85 v94 v88 v98)), .val (.int (own_eq v94 v85 v98 v88)), .val (.int (1 : Int32)), .val (.int (0 : Int32)), .val (.int (0 : Int32))] [(.int (own_eq v94 v85 v98 v88))])) _
    refine XS.iload X146.here hx rfl (hb hby at_155) rfl ?_
    show Steps p.tables e below (T146.setTop (mkF m 157 #[.val (.int s1), .val (.long q1), .second, .val (.int s2), .val (.long q2), .second, .val (.int fl), .val (.int v85), .val (.long v88), .second, .val (.int v94), .val (.long v98), .second, .val (.ref b100), .val (.ref b111), .val (.int v126), .val (.int (own_eq v85 v94 v88 v98)), .val (.int (own_eq v94 v85 v98 v88)), .val (.int (1 : Int32)), .val (.int (0 : Int32)), .val (.int (0 : Int32))] [(.int v126), (.int (own_eq v94 v85 v98 v88))])) _
    refine XS.icmpNo X146.here hx rfl (hb hby at_157) rfl (teq ((own_eq_symm v85 v94 v88 v98).trans he)).2 ?_
    show Steps p.tables e below (T146.setTop (mkF m 160 #[.val (.int s1), .val (.long q1), .second, .val (.int s2), .val (.long q2), .second, .val (.int fl), .val (.int v85), .val (.long v88), .second, .val (.int v94), .val (.long v98), .second, .val (.ref b100), .val (.ref b111), .val (.int v126), .val (.int (own_eq v85 v94 v88 v98)), .val (.int (own_eq v94 v85 v98 v88)), .val (.int (1 : Int32)), .val (.int (0 : Int32)), .val (.int (0 : Int32))] [])) _
    refine XS.iload X146.here hx rfl (hb hby at_160) rfl ?_
    show Steps p.tables e below (T146.setTop (mkF m 162 #[.val (.int s1), .val (.long q1), .second, .val (.int s2), .val (.long q2), .second, .val (.int fl), .val (.int v85), .val (.long v88), .second, .val (.int v94), .val (.long v98), .second, .val (.ref b100), .val (.ref b111), .val (.int v126), .val (.int (own_eq v85 v94 v88 v98)), .val (.int (own_eq v94 v85 v98 v88)), .val (.int (1 : Int32)), .val (.int (0 : Int32)), .val (.int (0 : Int32))] [(.int (1 : Int32))])) _
    refine XS.ifNo X146.here hx rfl (hb hby at_162) rfl ((if0 _ _).trans (feq (by decide)).1) ?_
    show Steps p.tables e below (T146.setTop (mkF m 165 #[.val (.int s1), .val (.long q1), .second, .val (.int s2), .val (.long q2), .second, .val (.int fl), .val (.int v85), .val (.long v88), .second, .val (.int v94), .val (.long v98), .second, .val (.ref b100), .val (.ref b111), .val (.int v126), .val (.int (own_eq v85 v94 v88 v98)), .val (.int (own_eq v94 v85 v98 v88)), .val (.int (1 : Int32)), .val (.int (0 : Int32)), .val (.int (0 : Int32))] [])) _
    refine XS.iload X146.here hx rfl (hb hby at_165) rfl ?_
    show Steps p.tables e below (T146.setTop (mkF m 167 #[.val (.int s1), .val (.long q1), .second, .val (.int s2), .val (.long q2), .second, .val (.int fl), .val (.int v85), .val (.long v88), .second, .val (.int v94), .val (.long v98), .second, .val (.ref b100), .val (.ref b111), .val (.int v126), .val (.int (own_eq v85 v94 v88 v98)), .val (.int (own_eq v94 v85 v98 v88)), .val (.int (1 : Int32)), .val (.int (0 : Int32)), .val (.int (0 : Int32))] [(.int (0 : Int32))])) _
    refine XS.ifNo X146.here hx rfl (hb hby at_167) rfl ((if0 _ _).trans (teq rfl).2) ?_
    show Steps p.tables e below (T146.setTop (mkF m 170 #[.val (.int s1), .val (.long q1), .second, .val (.int s2), .val (.long q2), .second, .val (.int fl), .val (.int v85), .val (.long v88), .second, .val (.int v94), .val (.long v98), .second, .val (.ref b100), .val (.ref b111), .val (.int v126), .val (.int (own_eq v85 v94 v88 v98)), .val (.int (own_eq v94 v85 v98 v88)), .val (.int (1 : Int32)), .val (.int (0 : Int32)), .val (.int (0 : Int32))] [])) _
    refine XS.iload X146.here hx rfl (hb hby at_170) rfl ?_
    show Steps p.tables e below (T146.setTop (mkF m 172 #[.val (.int s1), .val (.long q1), .second, .val (.int s2), .val (.long q2), .second, .val (.int fl), .val (.int v85), .val (.long v88), .second, .val (.int v94), .val (.long v98), .second, .val (.ref b100), .val (.ref b111), .val (.int v126), .val (.int (own_eq v85 v94 v88 v98)), .val (.int (own_eq v94 v85 v98 v88)), .val (.int (1 : Int32)), .val (.int (0 : Int32)), .val (.int (0 : Int32))] [(.int (0 : Int32))])) _
    refine XS.ifNo X146.here hx rfl (hb hby at_172) rfl ((if0 _ _).trans (teq rfl).2) ?_
    show Steps p.tables e below (T146.setTop (mkF m 175 #[.val (.int s1), .val (.long q1), .second, .val (.int s2), .val (.long q2), .second, .val (.int fl), .val (.int v85), .val (.long v88), .second, .val (.int v94), .val (.long v98), .second, .val (.ref b100), .val (.ref b111), .val (.int v126), .val (.int (own_eq v85 v94 v88 v98)), .val (.int (own_eq v94 v85 v98 v88)), .val (.int (1 : Int32)), .val (.int (0 : Int32)), .val (.int (0 : Int32))] [])) _
    refine XS.iconst X146.here hx rfl (hb hby at_175) ?_
    show Steps p.tables e below (T146.setTop (mkF m 176 #[.val (.int s1), .val (.long q1), .second, .val (.int s2), .val (.long q2), .second, .val (.int fl), .val (.int v85), .val (.long v88), .second, .val (.int v94), .val (.long v98), .second, .val (.ref b100), .val (.ref b111), .val (.int v126), .val (.int (own_eq v85 v94 v88 v98)), .val (.int (own_eq v94 v85 v98 v88)), .val (.int (1 : Int32)), .val (.int (0 : Int32)), .val (.int (0 : Int32))] [(.int (1 : Int32))])) _
    refine XS.goto X146.here hx rfl (pc0 := 176) (pc' := 180) rfl (hb hby at_176) (by decide) (by decide) ?_
    exact kt
  have C148 : ∀ t, Steps p.tables e below (T146.setTop (mkF m 180 #[.val (.int s1), .val (.long q1), .second, .val (.int s2), .val (.long q2), .second, .val (.int fl), .val (.int v85), .val (.long v88), .second, .val (.int v94), .val (.long v98), .second, .val (.ref b100), .val (.ref b111), .val (.int v126), .val (.int (own_eq v85 v94 v88 v98)), .val (.int (own_eq v94 v85 v98 v88)), .val (.int (1 : Int32)), .val (.int (0 : Int32)), .val (.int (0 : Int32))] [(.int (1 : Int32))])) t → Steps p.tables e below (s₁.setTop (mkF m 0 #[.val (.int s1), .val (.long q1), .second, .val (.int s2), .val (.long q2), .second, .val (.int fl), .unset, .unset, .unset, .unset, .unset, .unset, .unset, .unset, .unset, .unset, .unset, .unset, .unset, .unset] [])) t := (fun t k => (S86 t (S87 t (S89 t (S90 t (S91 t (S93 t (S95 t (S97 t (S99 t (st100 t (S105 t (st106.trans (S110 t (st111 t (S117 t (st118.trans (S122 t (S125 t (S131 t (st132.trans (S134 t (st135.trans (S136 t (st137.trans (S138 t (st139.trans (S141 t (st142 t (st146.trans (S147 t k)))))))))))))))))))))))))))))))
  obtain ⟨fs, hr, hrun, hended, hW, hsame⟩ := X146.leave (v := some (.int (1 : Int32))) (fun h => by rw [Bd.returns] at h; cases h)
  refine ⟨_, _, pre0 _ (C148 _ ?_), hrun, hended, _, _, rfl, ?_, ⟨_, rfl⟩, hW, hsame.mono (by decide) (by decide)⟩
  · exact retN X146 hx (t := .boolean) Bd.returns (by simp) (hb hby at_180) hr
  · show Q_rm0 Z s1 q1 s2 q2 fl h0 n0 _ T146.heap _
    rw [e146]
    exact ⟨rfl, N146⟩

theorem own_eq_v {args : Array Value} {first s : State} {o : Option Outcome} {idx : List Nat} {a b : Term} {y : Value} (h : (Cond.eq a b).value args first o s idx = some true) (hb : b.eval args first o idx s = some y) (hy : y.isRef = true ∨ ∃ z, y = .int z) : a.eval args first o idx s = some y := by
  obtain ⟨x, y', e1, e2, k1, k2⟩ := cmp_v (Or.inl h)
  obtain rfl : y' = y := Option.some.inj (e2.symm.trans hb)
  rcases hy with hy | ⟨z, rfl⟩
  · have hx : x.isRef = true := by
      rcases ref_cases hy with rfl | ⟨q, rfl⟩ <;> exact k2.2
    have := gotT (eq_R e1 e2 hx hy) h
    rw [e1, this]
  · obtain ⟨q, rfl⟩ := k2
    have hq : (Cond.eq a b).value args first o s idx = some (decide (q = z)) := by simp [Cond.value, e1, e2]
    have := gotT hq h
    rw [e1, this]
theorem own_len_lt {args : Array Value} {first s : State} {o : Option Outcome} {idx : List Nat} {t : Term} {a : Addr} {cl : Cell} {v : Value} (ht : t.eval args first o idx s = some (.ref a)) (ha : s.arrayAt? a = some cl) (h : (Term.length t).eval args first o idx s = some v) : cl.slots.size < 2 ^ 31 := by
  by_cases q : cl.slots.size < 2 ^ 31
  · exact q
  · exfalso
    have q' : ¬ cl.slots.size < 2147483648 := q
    simp [Term.eval, ht, ha, q'] at h
set_option maxRecDepth 65536 in
theorem own_IC_of {s : State} {args : Array Value} (hw : ∀ d ∈ tables_1, d.before args s = true) (hs : ∀ d ∈ jdkStatics_1, d.before args s = true) : own_IC s := by
  have ev1 := own_eq_v (Cond.before_iff.mp (hs _ (List.mem_of_getElem? (i := 3) rfl))) (Term.int_eval (127)) (Or.inr ⟨_, rfl⟩)
  have S1 := Sta.start ev1 (Or.inl (hs _ (List.mem_of_getElem? (i := 1) rfl)))
  have h4 := Cond.before_iff.mp (hs _ (List.mem_of_getElem? (i := 4) rfl))
  obtain ⟨t, ev2⟩ := arr_v h4
  have S2 := Sta.start ev2 (Or.inr ⟨hw _ (List.mem_of_getElem? (i := 32) rfl), hs _ (List.mem_of_getElem? (i := 2) rfl)⟩)
  obtain ⟨cl, A⟩ := Arr.start ev2 h4
  have ha : s.arrayAt? t = some cl := Arr.fin (Vm.Alike.refl _) A
  have hl := own_eq_v (Cond.before_iff.mp (hs _ (List.mem_of_getElem? (i := 6) rfl))) (Term.int_eval (256)) (Or.inr ⟨_, rfl⟩)
  have hsz : cl.slots.size = 256 := by
    obtain ⟨x, cell, e1, e2, e4⟩ := Term.length_spec hl
    cases ev2.symm.trans e1
    cases ha.symm.trans e2
    have e3 : cl.slots.size < 2 ^ 31 := own_len_lt ev2 ha hl
    have e5 : cl.slots.size.toInt32 = (256 : Int32) := (Value.int.inj e4).symm
    have := congrArg Int32.toInt e5
    rw [len_toInt e3] at this
    have z : (256 : Int32).toInt = 256 := by decide
    omega
  have hall := Cond.all_elim ev2 ha (Cond.before_iff.mp (hs _ (List.mem_of_getElem? (i := 7) rfl)))
  have key : ∀ k, k < 256 → ∃ x, cl.slots[k]? = some (.ref x) ∧ Exa s s.heap x "java/lang/Integer" := fun k hk => by
    have q := (and_e (hall k (by omega))).1
    obtain ⟨x, ex⟩ := exa_v q
    have hk0 : ¬ (Int32.ofNat k) < 0 := by
      rw [Int32.lt_iff_toInt_lt, Int32.toInt_ofNat_of_lt (by omega), show (0 : Int32).toInt = 0 by decide]; omega
    have hkc : (Int32.ofNat k).toNatClampNeg = k := own_clamp (Int32.toInt_ofNat_of_lt (by omega))
    have hi : (Term.index 0).eval args s none [k] s = some (.int (Int32.ofNat k)) := by
      have z := idx_at (args := args) (s := s) (first := s) (o := none) hk0
      rw [hkc] at z; exact z
    have ev2' : (Term.static "java/lang/Integer$IntegerCache" "cache" "[Ljava/lang/Integer;").eval args s none [k] s = some (.ref t) := ev2
    have ef := elem_f ev2' hi ha hk0
    rw [hkc] at ef
    exact ⟨x, ef.symm.trans ex, exa_at ex q⟩
  refine ⟨S1, t, fun k => match cl.slots[k]? with | some (.ref x) => x | _ => 0, S2, ⟨cl, A, hsz, by decide, fun k hk => ?_⟩, fun k hk => ?_⟩
  · obtain ⟨x, e, -⟩ := key k hk
    simp only [e]
  · obtain ⟨x, e, E⟩ := key k hk
    simp only [e]; exact E
set_option maxRecDepth 65536 in
set_option maxHeartbeats 40000000 in
theorem comes_1 {Post : Tables → Env → Array Value → State → Outcome → State → Prop} (hpost : ∀ tb e args s v u, (limb_1_1.after args s (.returned v) u = true ∧ limb_1_2.after args s (.returned v) u = true ∧ True) → FrameEnd s (.returned v) u (Jvm.fieldLocs frame_1_writes args s ++ Jvm.arrayLocs frame_1_arrays args s ++ Jvm.staticLocs frame_1_statics s) 16 128 → Post tb e args s (.returned v) u) :
    ArmFor flags0 classFile x code maxLocals ret World_1 tables_1 room_1 Calls_1 rest_1 Pre_1 Post := by
  intro l hfl _ _ p e ha hc hk s m args below hf hA hF happ hP
  obtain ⟨hcalls, hrest, hpre⟩ := hP
  obtain ⟨-, -, -, hnamed, -, -, -, hat⟩ := (Spec.applies_iff hf).mp happ
  obtain ⟨hg, hn⟩ := and_e (Cond.before_iff.mp (show (Jvm.Cond.and given_1 narrow_1).before args s = true from hpre))
  obtain ⟨gg1, gg2⟩ := and_e hg
  obtain ⟨gg3, gg4⟩ := and_e gg2
  obtain ⟨gg5, gg6⟩ := and_e gg4
  obtain ⟨gg7, gg8⟩ := and_e gg6
  obtain ⟨gg9, gg10⟩ := and_e gg8
  obtain ⟨w0, w1, w2, w3, w4, rfl⟩ : ∃ w0 w1 w2 w3 w4 : Value, args = #[w0, w1, w2, w3, w4] := by
    have hs : args.size = 5 := by simpa [Cond.value, given_1] using gg1
    obtain ⟨L⟩ := args
    match L, hs with
    | [w0, w1, w2, w3, w4], _ => exact ⟨w0, w1, w2, w3, w4, rfl⟩
  have hw := fun d (hd : d ∈ tables_1) => atoms_spec (ws := Jvm.Cond.code x code maxLocals ret :: tables_1) hat d (List.mem_cons_of_mem _ hd)
  have hfit : Fit s := fun {y c} hc i hi => by
    obtain ⟨ha, rfl⟩ := Array.getElem?_eq_some_iff.mp hc
    have q := List.all_eq_true.mp ((Array.all_eq_true_iff_forall_mem.mp hF) _ (Array.getElem_mem ha)) i (List.mem_range.mpr hi)
    simpa [Array.getElem?_eq_getElem hi] using q
  obtain ⟨hsets, hown0⟩ := atoms_of _ (rest_1_c_eq ▸ (show rest_1_c.before _ s = true from hrest))
  have hr0 := Cond.before_iff.mp hown0
  obtain ⟨i0, ei0⟩ := is_v gg3
  obtain rfl : w0 = (.int i0) := Option.some.inj ei0
  obtain ⟨i1, ei1⟩ := isL_v gg5
  obtain rfl : w1 = (.long i1) := Option.some.inj ei1
  obtain ⟨i2, ei2⟩ := is_v gg7
  obtain rfl : w2 = (.int i2) := Option.some.inj ei2
  obtain ⟨i3, ei3⟩ := isL_v gg9
  obtain rfl : w3 = (.long i3) := Option.some.inj ei3
  obtain ⟨i4, ei4⟩ := is_v gg10
  obtain rfl : w4 = (.int i4) := Option.some.inj ei4
  have HI := own_IC_of hw hsets
  obtain ⟨n, o, h1, h2, h3, _, L, rfl, ⟨rfl, N⟩, hq⟩ := rm0 l s _ hw tables_1 i0 i1 i2 i3 i4 s.heap s.heap.size (Nat.le_refl _) (Old.start s) HI p e ha hc hk s m _ below hf ((Spec.applies_iff_loose hf).mp happ).1 ⟨rfl, State.Warmed39.refl s, rfl⟩ trivial
  refine ⟨n, _, h1, h2, h3, hpost _ _ _ _ _ _ ⟨Cond.after_iff.mpr rfl, Cond.after_iff.mpr (eq_i res_at (Term.int_eval (1)) rfl), trivial⟩ ⟨hq.1, hq.2.1, (hq.2.2.sift fun y hy => Or.inr (N y hy)).mono (by decide) (by decide)⟩⟩
theorem main_1_1 : Claimed_1_1 := comes_1 fun _ _ _ _ _ _ h hF => ⟨h.1, hF⟩
theorem main_1_2 : Claimed_1_2 := comes_1 fun _ _ _ _ _ _ h hF => ⟨h.2.1, hF⟩
end Jvm.Pilot.@@N@@
namespace Jvm.Pilot.@@N@@
open Jvm Jvm.ClassFile Sem Op Lib Jvm.Free Jvm.Stand Jvm.Pilot.@@N@@.Jvm.D
/-! MADE BY PROGRAM (witnessworld.py) out of the Statement's table words and the real class files: 17 classes; the members and pool entries that the words name. The judged class is class 1, her method 1. -/
namespace start1
open Jvm.ClassFile
def u (s : String) : CpInfo := .utf8 (stringToUtf16 s)
/-- a pool by its gaps: so many unusable entries, then the entry; so many at the end -/
def gap : Nat → List CpInfo → List CpInfo
  | 0, r => r
  | n + 1, r => .unusable :: gap n r
def poolList (es : List (Nat × CpInfo)) (last : Nat) : List CpInfo := es.foldr (fun e r => gap e.1 (e.2 :: r)) (gap last [])
def pool (es : List (Nat × CpInfo)) (last : Nat) : Array CpInfo := ⟨poolList es last⟩
def fileOf (pool : Array CpInfo) (this : Nat) (attrs : Array Attribute := #[]) (ms : Array MethodInfo := #[]) (fl : Nat := 33) (sup : Nat := 0) (ifs : Array Nat := #[]) (fds : Array FieldInfo := #[]) : ClassFile where
  minorVersion := 0
  majorVersion := 65
  constantPool := pool
  accessFlags := fl
  thisClass := this
  superClass := sup
  interfaces := ifs
  fields := fds
  methods := ms
  attributes := attrs
def plain (name : String) (sup : Option ClassId) : Class where
  name := name
  kind := .ordinary
  loader := none
  accessFlags := 33
  super := sup
  interfaces := #[]
  cf := none
  fields := #[]
  methods := #[]
  instanceTypes := #[]
  staticTypes := #[]
  resolved := #[]
  callSites := []
  init := .initialized
  statics := none
  mirror := none

def pool0 : Array CpInfo := pool [(5, u "<init>"), (0, u "()V"), (1, .class_ 10), (1, u "java/lang/Object")] 113

def k0c0 : Code := { maxStack := 0, maxLocals := 1, code := object_method_1_code, exceptionTable := #[], attributes := #[] }
def k0m0 : Method := { name := "<init>", desc := "()V", sig := { parameters := [], returnType := none }, accessFlags := 1, code := some k0c0 }
/-- java/lang/Object -/
def k0 : Class := { plain "java/lang/Object" none with
  accessFlags := 33
  interfaces := #[]
  cf := some (fileOf pool0 8 #[] #[{ accessFlags := 1, nameIndex := 5, descriptorIndex := 6, attributes := #[] }] 33 0 #[] #[])
  fields := #[]
  methods := #[k0m0]
  instanceTypes := #[]
  staticTypes := #[]
  resolved := Array.replicate 124 none
  statics := none }

def pool1 : Array CpInfo := pool [(2, .class_ 4), (1, u "java/lang/Object"), (0, u "<init>"), (0, u "()V"), (0, .integer 2147483647), (2, .long 9223372036854775807), (1, .class_ 13), (0, u "com/example/totality/totality/core/Label"), (0, .methodref 12 15), (0, .nameAndType 5 16), (0, u "(IJ)V"), (0, .methodref 12 18), (0, .nameAndType 19 20), (0, u "equals"), (0, u "(Ljava/lang/Object;)Z"), (0, .methodref 22 23), (0, .class_ 24), (0, .nameAndType 25 26), (0, u "java/lang/Integer"), (0, u "valueOf"), (0, u "(I)Ljava/lang/Integer;"), (0, .class_ 28), (0, u "com/example/totality/totality/core/LabelEqualsPinLaw"), (2, u "law"), (0, u "(IJIJI)Z")] 3

def k1m0 : Method := { name := "<init>", desc := "()V", sig := { parameters := [], returnType := none }, accessFlags := 1, code := none }
def k1c1 : Code := { maxStack := 5, maxLocals := 21, code := code, exceptionTable := #[], attributes := #[] }
def k1m1 : Method := { name := "law", desc := "(IJIJI)Z", sig := { parameters := [.int, .long, .int, .long, .int], returnType := some .boolean }, accessFlags := 9, code := some k1c1 }
/-- com/example/totality/totality/core/LabelEqualsPinLaw -/
def k1 : Class := { plain "com/example/totality/totality/core/LabelEqualsPinLaw" (some 0) with
  accessFlags := 49
  interfaces := #[]
  cf := some (fileOf pool1 27 #[] #[{ accessFlags := 1, nameIndex := 5, descriptorIndex := 6, attributes := #[] }, { accessFlags := 9, nameIndex := 31, descriptorIndex := 32, attributes := #[] }] 49 2 #[] #[])
  fields := #[]
  methods := #[k1m0, k1m1]
  instanceTypes := #[]
  staticTypes := #[]
  resolved := Array.replicate 36 none
  statics := none }

def pool2 : Array CpInfo := pool [(1, .methodref 2 3), (0, .class_ 4), (0, .nameAndType 5 6), (0, u "java/lang/Object"), (0, u "<init>"), (0, u "()V"), (0, .class_ 8), (0, u "java/lang/Record")] 13

def k2c0 : Code := { maxStack := 1, maxLocals := 1, code := jdk_30_method_1_code, exceptionTable := #[], attributes := #[] }
def k2m0 : Method := { name := "<init>", desc := "()V", sig := { parameters := [], returnType := none }, accessFlags := 4, code := some k2c0 }
/-- java/lang/Record -/
def k2 : Class := { plain "java/lang/Record" (some 0) with
  accessFlags := 1057
  interfaces := #[]
  cf := some (fileOf pool2 7 #[] #[{ accessFlags := 4, nameIndex := 5, descriptorIndex := 6, attributes := #[] }] 1057 2 #[] #[])
  fields := #[]
  methods := #[k2m0]
  instanceTypes := #[]
  staticTypes := #[]
  resolved := Array.replicate 22 none
  statics := none }

def pool3 : Array CpInfo := pool [(1, .class_ 2), (0, u "java/lang/Comparable"), (0, .class_ 4), (0, u "java/lang/Object")] 7

/-- java/lang/Comparable -/
def k3 : Class := { plain "java/lang/Comparable" (some 0) with
  accessFlags := 1537
  interfaces := #[]
  cf := some (fileOf pool3 1 #[] #[] 1537 3 #[] #[])
  fields := #[]
  methods := #[]
  instanceTypes := #[]
  staticTypes := #[]
  resolved := Array.replicate 12 none
  statics := none }

def pool4 : Array CpInfo := pool [(1, .methodref 2 3), (0, .class_ 4), (0, .nameAndType 5 6), (0, u "java/lang/Record"), (0, u "<init>"), (0, u "()V"), (9, .fieldref 17 18), (0, .class_ 19), (0, .nameAndType 20 21), (0, u "com/example/totality/totality/core/Label"), (0, u "sender"), (0, u "I"), (0, .fieldref 17 23), (0, .nameAndType 24 25), (0, u "sequence"), (0, u "J"), (2, u "WRITTEN"), (0, u "Ljava/util/regex/Pattern;"), (36, u "(IJ)V"), (26, .class_ 94), (0, u "java/lang/Comparable"), (8, u "equals"), (0, u "(Ljava/lang/Object;)Z")] 27

def k4c0 : Code := { maxStack := 5, maxLocals := 4, code := prog_36_method_1_code, exceptionTable := #[], attributes := #[] }
def k4m0 : Method := { name := "<init>", desc := "(IJ)V", sig := { parameters := [.int, .long], returnType := none }, accessFlags := 1, code := some k4c0 }
def k4c1 : Code := { maxStack := 4, maxLocals := 3, code := prog_36_method_3_code, exceptionTable := #[], attributes := #[] }
def k4m1 : Method := { name := "equals", desc := "(Ljava/lang/Object;)Z", sig := { parameters := [(.object "java/lang/Object")], returnType := some .boolean }, accessFlags := 1, code := some k4c1 }
/-- com/example/totality/totality/core/Label -/
def k4 : Class := { plain "com/example/totality/totality/core/Label" (some 2) with
  accessFlags := 49
  interfaces := #[3]
  cf := some (fileOf pool4 17 #[] #[{ accessFlags := 1, nameIndex := 5, descriptorIndex := 66, attributes := #[] }, { accessFlags := 1, nameIndex := 103, descriptorIndex := 104, attributes := #[] }] 49 2 #[93] #[{ accessFlags := 18, nameIndex := 20, descriptorIndex := 21, attributes := #[] }, { accessFlags := 18, nameIndex := 24, descriptorIndex := 25, attributes := #[] }, { accessFlags := 26, nameIndex := 28, descriptorIndex := 29, attributes := #[] }])
  fields := #[{ name := "sender", type := .int, accessFlags := 18, slot := 0, constantValue := 0 }, { name := "sequence", type := .long, accessFlags := 18, slot := 1, constantValue := 0 }, { name := "WRITTEN", type := (.object "java/util/regex/Pattern"), accessFlags := 26, slot := 0, constantValue := 0 }]
  methods := #[k4m0, k4m1]
  instanceTypes := #[.int, .long]
  staticTypes := #[(.object "java/util/regex/Pattern")]
  resolved := Array.replicate 132 none
  statics := none }

def pool5 : Array CpInfo := pool [(1, .class_ 2), (0, u "java/io/Serializable"), (0, .class_ 4), (0, u "java/lang/Object")] 2

/-- java/io/Serializable -/
def k5 : Class := { plain "java/io/Serializable" (some 0) with
  accessFlags := 1537
  interfaces := #[]
  cf := some (fileOf pool5 1 #[] #[] 1537 3 #[] #[])
  fields := #[]
  methods := #[]
  instanceTypes := #[]
  staticTypes := #[]
  resolved := Array.replicate 7 none
  statics := none }

def pool6 : Array CpInfo := pool [(1, .methodref 2 3), (0, .class_ 4), (0, .nameAndType 5 6), (0, u "java/lang/Object"), (0, u "<init>"), (0, u "()V"), (1, .class_ 10), (1, u "java/lang/Number"), (2, .class_ 14), (0, u "java/io/Serializable"), (0, u "serialVersionUID"), (0, u "J")] 20

def k6c0 : Code := { maxStack := 1, maxLocals := 1, code := jdk_18_method_1_code, exceptionTable := #[], attributes := #[] }
def k6m0 : Method := { name := "<init>", desc := "()V", sig := { parameters := [], returnType := none }, accessFlags := 1, code := some k6c0 }
/-- java/lang/Number -/
def k6 : Class := { plain "java/lang/Number" (some 0) with
  accessFlags := 1057
  interfaces := #[5]
  cf := some (fileOf pool6 8 #[] #[{ accessFlags := 1, nameIndex := 5, descriptorIndex := 6, attributes := #[] }] 1057 2 #[13] #[{ accessFlags := 26, nameIndex := 15, descriptorIndex := 16, attributes := #[] }])
  fields := #[{ name := "serialVersionUID", type := .long, accessFlags := 26, slot := 0, constantValue := 0 }]
  methods := #[k6m0]
  instanceTypes := #[]
  staticTypes := #[.long]
  resolved := Array.replicate 37 none
  statics := none }

def pool7 : Array CpInfo := pool [(1, .class_ 2), (0, u "java/lang/constant/Constable"), (0, .class_ 4), (0, u "java/lang/Object")] 6

/-- java/lang/constant/Constable -/
def k7 : Class := { plain "java/lang/constant/Constable" (some 0) with
  accessFlags := 1537
  interfaces := #[]
  cf := some (fileOf pool7 1 #[] #[] 1537 3 #[] #[])
  fields := #[]
  methods := #[]
  instanceTypes := #[]
  staticTypes := #[]
  resolved := Array.replicate 11 none
  statics := none }

def pool8 : Array CpInfo := pool [(1, .class_ 2), (0, u "java/lang/constant/ConstantDesc"), (0, .class_ 4), (0, u "java/lang/Object")] 32

/-- java/lang/constant/ConstantDesc -/
def k8 : Class := { plain "java/lang/constant/ConstantDesc" (some 0) with
  accessFlags := 1537
  interfaces := #[]
  cf := some (fileOf pool8 1 #[] #[] 1537 3 #[] #[])
  fields := #[]
  methods := #[]
  instanceTypes := #[]
  staticTypes := #[]
  resolved := Array.replicate 37 none
  statics := none }

def pool9 : Array CpInfo := pool [(1, .class_ 2), (0, u "java/lang/Integer"), (16, u "digits"), (0, u "[C"), (46, u "<init>"), (17, u "DigitOnes"), (0, u "[B"), (2, u "DigitTens"), (10, .nameAndType 67 101), (0, u "()V"), (85, u "valueOf"), (0, u "(I)Ljava/lang/Integer;"), (0, .class_ 190), (0, u "java/lang/Integer$IntegerCache"), (0, .fieldref 189 192), (0, .nameAndType 193 194), (0, u "high"), (0, u "I"), (0, .fieldref 189 196), (0, .nameAndType 197 198), (0, u "cache"), (0, u "[Ljava/lang/Integer;"), (0, .methodref 1 200), (0, .nameAndType 67 201), (0, u "(I)V"), (0, .methodref 203 100), (0, .class_ 204), (0, u "java/lang/Number"), (0, .fieldref 1 206), (0, .nameAndType 207 194), (0, u "value"), (94, u "TYPE"), (0, u "Ljava/lang/Class;"), (0, .class_ 305), (0, u "java/lang/Comparable"), (0, .class_ 307), (0, u "java/lang/constant/Constable"), (0, .class_ 309), (0, u "java/lang/constant/ConstantDesc"), (0, u "MIN_VALUE"), (1, u "MAX_VALUE"), (3, u "SIZE"), (1, u "BYTES"), (1, u "serialVersionUID"), (0, u "J")] 131

def k9c0 : Code := { maxStack := 3, maxLocals := 1, code := jdk_33_method_22_code, exceptionTable := #[], attributes := #[] }
def k9m0 : Method := { name := "valueOf", desc := "(I)Ljava/lang/Integer;", sig := { parameters := [.int], returnType := some (.object "java/lang/Integer") }, accessFlags := 9, code := some k9c0 }
def k9c1 : Code := { maxStack := 2, maxLocals := 2, code := jdk_33_method_23_code, exceptionTable := #[], attributes := #[] }
def k9m1 : Method := { name := "<init>", desc := "(I)V", sig := { parameters := [.int], returnType := none }, accessFlags := 1, code := some k9c1 }
/-- java/lang/Integer -/
def k9 : Class := { plain "java/lang/Integer" (some 6) with
  accessFlags := 49
  interfaces := #[3, 7, 8]
  cf := some (fileOf pool9 1 #[.nestMembers #[189]] #[{ accessFlags := 9, nameIndex := 187, descriptorIndex := 188, attributes := #[] }, { accessFlags := 1, nameIndex := 67, descriptorIndex := 201, attributes := #[] }] 49 203 #[304, 306, 308] #[{ accessFlags := 25, nameIndex := 310, descriptorIndex := 194, attributes := #[] }, { accessFlags := 25, nameIndex := 312, descriptorIndex := 194, attributes := #[] }, { accessFlags := 25, nameIndex := 302, descriptorIndex := 303, attributes := #[] }, { accessFlags := 24, nameIndex := 19, descriptorIndex := 20, attributes := #[] }, { accessFlags := 24, nameIndex := 89, descriptorIndex := 86, attributes := #[] }, { accessFlags := 24, nameIndex := 85, descriptorIndex := 86, attributes := #[] }, { accessFlags := 18, nameIndex := 207, descriptorIndex := 194, attributes := #[] }, { accessFlags := 25, nameIndex := 316, descriptorIndex := 194, attributes := #[] }, { accessFlags := 25, nameIndex := 318, descriptorIndex := 194, attributes := #[] }, { accessFlags := 26, nameIndex := 320, descriptorIndex := 321, attributes := #[] }])
  fields := #[{ name := "MIN_VALUE", type := .int, accessFlags := 25, slot := 0, constantValue := 0 }, { name := "MAX_VALUE", type := .int, accessFlags := 25, slot := 1, constantValue := 0 }, { name := "TYPE", type := (.object "java/lang/Class"), accessFlags := 25, slot := 2, constantValue := 0 }, { name := "digits", type := (.array .char), accessFlags := 24, slot := 3, constantValue := 0 }, { name := "DigitTens", type := (.array .byte), accessFlags := 24, slot := 4, constantValue := 0 }, { name := "DigitOnes", type := (.array .byte), accessFlags := 24, slot := 5, constantValue := 0 }, { name := "value", type := .int, accessFlags := 18, slot := 0, constantValue := 0 }, { name := "SIZE", type := .int, accessFlags := 25, slot := 6, constantValue := 0 }, { name := "BYTES", type := .int, accessFlags := 25, slot := 7, constantValue := 0 }, { name := "serialVersionUID", type := .long, accessFlags := 26, slot := 8, constantValue := 0 }]
  methods := #[k9m0, k9m1]
  instanceTypes := #[.int]
  staticTypes := #[.int, .int, (.object "java/lang/Class"), (.array .char), (.array .byte), (.array .byte), .int, .int, .long]
  resolved := Array.replicate 453 none
  statics := none }

def pool10 : Array CpInfo := pool [(2, .class_ 4), (1, u "java/lang/Object"), (0, u "<init>"), (0, u "()V"), (0, .class_ 8), (0, u "java/lang/Integer"), (7, .class_ 18), (1, u "java/lang/Integer$IntegerCache"), (0, u "$assertionsDisabled"), (0, u "Z"), (26, u "high"), (0, u "I"), (8, u "archivedCache"), (0, u "[Ljava/lang/Integer;"), (12, u "cache"), (0, u "low")] 27

def k10m0 : Method := { name := "<init>", desc := "()V", sig := { parameters := [], returnType := none }, accessFlags := 2, code := none }
/-- java/lang/Integer$IntegerCache -/
def k10 : Class := { plain "java/lang/Integer$IntegerCache" (some 0) with
  accessFlags := 48
  interfaces := #[]
  cf := some (fileOf pool10 16 #[.nestHost 7] #[{ accessFlags := 2, nameIndex := 5, descriptorIndex := 6, attributes := #[] }] 48 2 #[] #[{ accessFlags := 24, nameIndex := 72, descriptorIndex := 48, attributes := #[] }, { accessFlags := 24, nameIndex := 47, descriptorIndex := 48, attributes := #[] }, { accessFlags := 24, nameIndex := 71, descriptorIndex := 58, attributes := #[] }, { accessFlags := 8, nameIndex := 57, descriptorIndex := 58, attributes := #[] }, { accessFlags := 4120, nameIndex := 19, descriptorIndex := 20, attributes := #[] }])
  fields := #[{ name := "low", type := .int, accessFlags := 24, slot := 0, constantValue := 0 }, { name := "high", type := .int, accessFlags := 24, slot := 1, constantValue := 0 }, { name := "cache", type := (.array (.object "java/lang/Integer")), accessFlags := 24, slot := 2, constantValue := 0 }, { name := "archivedCache", type := (.array (.object "java/lang/Integer")), accessFlags := 8, slot := 3, constantValue := 0 }, { name := "$assertionsDisabled", type := .boolean, accessFlags := 4120, slot := 4, constantValue := 0 }]
  methods := #[k10m0]
  instanceTypes := #[]
  staticTypes := #[.int, .int, (.array (.object "java/lang/Integer")), (.array (.object "java/lang/Integer")), .boolean]
  resolved := Array.replicate 100 none
  statics := some 0 }

def pool11 : Array CpInfo := pool [(1, u "java/lang/Cloneable"), (0, .class_ 1), (0, u "java/lang/Object"), (0, .class_ 3)] 3

/-- java/lang/Cloneable -/
def k11 : Class := { plain "java/lang/Cloneable" (some 0) with
  accessFlags := 1537
  interfaces := #[]
  cf := some (fileOf pool11 2 #[] #[] 1537 4 #[] #[])
  fields := #[]
  methods := #[]
  instanceTypes := #[]
  staticTypes := #[]
  resolved := Array.replicate 8 none
  statics := none }

/-- the primitive byte -/
def k12 : Class := { plain "byte" none with kind := .primitive 'B', accessFlags := 0x411 }
/-- [B -/
def k13 : Class := { plain "[B" (some 0) with kind := .array 12 .byte, interfaces := #[11, 5], accessFlags := 1041 }

/-- the primitive int -/
def k14 : Class := { plain "int" none with kind := .primitive 'I', accessFlags := 0x411 }
/-- [I -/
def k15 : Class := { plain "[I" (some 0) with kind := .array 14 .int, interfaces := #[11, 5], accessFlags := 1041 }

/-- [Ljava/lang/Integer; -/
def k16 : Class := { plain "[Ljava/lang/Integer;" (some 0) with kind := .array 9 (.object "java/lang/Integer"), interfaces := #[11, 5], accessFlags := 1041 }

def heap : Heap := #[{ cls := 10, slots := #[.int 0, .int 127, .ref 1, .null, .int 0], vm := .statics 10 },
  { cls := 16, slots := #[.ref 2, .ref 3, .ref 4, .ref 5, .ref 6, .ref 7, .ref 8, .ref 9, .ref 10, .ref 11, .ref 12, .ref 13, .ref 14, .ref 15, .ref 16, .ref 17, .ref 18, .ref 19, .ref 20, .ref 21, .ref 22, .ref 23, .ref 24, .ref 25, .ref 26, .ref 27, .ref 28, .ref 29, .ref 30, .ref 31, .ref 32, .ref 33, .ref 34, .ref 35, .ref 36, .ref 37, .ref 38, .ref 39, .ref 40, .ref 41, .ref 42, .ref 43, .ref 44, .ref 45, .ref 46, .ref 47, .ref 48, .ref 49, .ref 50, .ref 51, .ref 52, .ref 53, .ref 54, .ref 55, .ref 56, .ref 57, .ref 58, .ref 59, .ref 60, .ref 61, .ref 62, .ref 63, .ref 64, .ref 65, .ref 66, .ref 67, .ref 68, .ref 69, .ref 70, .ref 71, .ref 72, .ref 73, .ref 74, .ref 75, .ref 76, .ref 77, .ref 78, .ref 79, .ref 80, .ref 81, .ref 82, .ref 83, .ref 84, .ref 85, .ref 86, .ref 87, .ref 88, .ref 89, .ref 90, .ref 91, .ref 92, .ref 93, .ref 94, .ref 95, .ref 96, .ref 97, .ref 98, .ref 99, .ref 100, .ref 101, .ref 102, .ref 103, .ref 104, .ref 105, .ref 106, .ref 107, .ref 108, .ref 109, .ref 110, .ref 111, .ref 112, .ref 113, .ref 114, .ref 115, .ref 116, .ref 117, .ref 118, .ref 119, .ref 120, .ref 121, .ref 122, .ref 123, .ref 124, .ref 125, .ref 126, .ref 127, .ref 128, .ref 129, .ref 130, .ref 131, .ref 132, .ref 133, .ref 134, .ref 135, .ref 136, .ref 137, .ref 138, .ref 139, .ref 140, .ref 141, .ref 142, .ref 143, .ref 144, .ref 145, .ref 146, .ref 147, .ref 148, .ref 149, .ref 150, .ref 151, .ref 152, .ref 153, .ref 154, .ref 155, .ref 156, .ref 157, .ref 158, .ref 159, .ref 160, .ref 161, .ref 162, .ref 163, .ref 164, .ref 165, .ref 166, .ref 167, .ref 168, .ref 169, .ref 170, .ref 171, .ref 172, .ref 173, .ref 174, .ref 175, .ref 176, .ref 177, .ref 178, .ref 179, .ref 180, .ref 181, .ref 182, .ref 183, .ref 184, .ref 185, .ref 186, .ref 187, .ref 188, .ref 189, .ref 190, .ref 191, .ref 192, .ref 193, .ref 194, .ref 195, .ref 196, .ref 197, .ref 198, .ref 199, .ref 200, .ref 201, .ref 202, .ref 203, .ref 204, .ref 205, .ref 206, .ref 207, .ref 208, .ref 209, .ref 210, .ref 211, .ref 212, .ref 213, .ref 214, .ref 215, .ref 216, .ref 217, .ref 218, .ref 219, .ref 220, .ref 221, .ref 222, .ref 223, .ref 224, .ref 225, .ref 226, .ref 227, .ref 228, .ref 229, .ref 230, .ref 231, .ref 232, .ref 233, .ref 234, .ref 235, .ref 236, .ref 237, .ref 238, .ref 239, .ref 240, .ref 241, .ref 242, .ref 243, .ref 244, .ref 245, .ref 246, .ref 247, .ref 248, .ref 249, .ref 250, .ref 251, .ref 252, .ref 253, .ref 254, .ref 255, .ref 256, .ref 257], vm := .none },
  { cls := 9, slots := #[.int (-128)], vm := .none },
  { cls := 9, slots := #[.int (-127)], vm := .none },
  { cls := 9, slots := #[.int (-126)], vm := .none },
  { cls := 9, slots := #[.int (-125)], vm := .none },
  { cls := 9, slots := #[.int (-124)], vm := .none },
  { cls := 9, slots := #[.int (-123)], vm := .none },
  { cls := 9, slots := #[.int (-122)], vm := .none },
  { cls := 9, slots := #[.int (-121)], vm := .none },
  { cls := 9, slots := #[.int (-120)], vm := .none },
  { cls := 9, slots := #[.int (-119)], vm := .none },
  { cls := 9, slots := #[.int (-118)], vm := .none },
  { cls := 9, slots := #[.int (-117)], vm := .none },
  { cls := 9, slots := #[.int (-116)], vm := .none },
  { cls := 9, slots := #[.int (-115)], vm := .none },
  { cls := 9, slots := #[.int (-114)], vm := .none },
  { cls := 9, slots := #[.int (-113)], vm := .none },
  { cls := 9, slots := #[.int (-112)], vm := .none },
  { cls := 9, slots := #[.int (-111)], vm := .none },
  { cls := 9, slots := #[.int (-110)], vm := .none },
  { cls := 9, slots := #[.int (-109)], vm := .none },
  { cls := 9, slots := #[.int (-108)], vm := .none },
  { cls := 9, slots := #[.int (-107)], vm := .none },
  { cls := 9, slots := #[.int (-106)], vm := .none },
  { cls := 9, slots := #[.int (-105)], vm := .none },
  { cls := 9, slots := #[.int (-104)], vm := .none },
  { cls := 9, slots := #[.int (-103)], vm := .none },
  { cls := 9, slots := #[.int (-102)], vm := .none },
  { cls := 9, slots := #[.int (-101)], vm := .none },
  { cls := 9, slots := #[.int (-100)], vm := .none },
  { cls := 9, slots := #[.int (-99)], vm := .none },
  { cls := 9, slots := #[.int (-98)], vm := .none },
  { cls := 9, slots := #[.int (-97)], vm := .none },
  { cls := 9, slots := #[.int (-96)], vm := .none },
  { cls := 9, slots := #[.int (-95)], vm := .none },
  { cls := 9, slots := #[.int (-94)], vm := .none },
  { cls := 9, slots := #[.int (-93)], vm := .none },
  { cls := 9, slots := #[.int (-92)], vm := .none },
  { cls := 9, slots := #[.int (-91)], vm := .none },
  { cls := 9, slots := #[.int (-90)], vm := .none },
  { cls := 9, slots := #[.int (-89)], vm := .none },
  { cls := 9, slots := #[.int (-88)], vm := .none },
  { cls := 9, slots := #[.int (-87)], vm := .none },
  { cls := 9, slots := #[.int (-86)], vm := .none },
  { cls := 9, slots := #[.int (-85)], vm := .none },
  { cls := 9, slots := #[.int (-84)], vm := .none },
  { cls := 9, slots := #[.int (-83)], vm := .none },
  { cls := 9, slots := #[.int (-82)], vm := .none },
  { cls := 9, slots := #[.int (-81)], vm := .none },
  { cls := 9, slots := #[.int (-80)], vm := .none },
  { cls := 9, slots := #[.int (-79)], vm := .none },
  { cls := 9, slots := #[.int (-78)], vm := .none },
  { cls := 9, slots := #[.int (-77)], vm := .none },
  { cls := 9, slots := #[.int (-76)], vm := .none },
  { cls := 9, slots := #[.int (-75)], vm := .none },
  { cls := 9, slots := #[.int (-74)], vm := .none },
  { cls := 9, slots := #[.int (-73)], vm := .none },
  { cls := 9, slots := #[.int (-72)], vm := .none },
  { cls := 9, slots := #[.int (-71)], vm := .none },
  { cls := 9, slots := #[.int (-70)], vm := .none },
  { cls := 9, slots := #[.int (-69)], vm := .none },
  { cls := 9, slots := #[.int (-68)], vm := .none },
  { cls := 9, slots := #[.int (-67)], vm := .none },
  { cls := 9, slots := #[.int (-66)], vm := .none },
  { cls := 9, slots := #[.int (-65)], vm := .none },
  { cls := 9, slots := #[.int (-64)], vm := .none },
  { cls := 9, slots := #[.int (-63)], vm := .none },
  { cls := 9, slots := #[.int (-62)], vm := .none },
  { cls := 9, slots := #[.int (-61)], vm := .none },
  { cls := 9, slots := #[.int (-60)], vm := .none },
  { cls := 9, slots := #[.int (-59)], vm := .none },
  { cls := 9, slots := #[.int (-58)], vm := .none },
  { cls := 9, slots := #[.int (-57)], vm := .none },
  { cls := 9, slots := #[.int (-56)], vm := .none },
  { cls := 9, slots := #[.int (-55)], vm := .none },
  { cls := 9, slots := #[.int (-54)], vm := .none },
  { cls := 9, slots := #[.int (-53)], vm := .none },
  { cls := 9, slots := #[.int (-52)], vm := .none },
  { cls := 9, slots := #[.int (-51)], vm := .none },
  { cls := 9, slots := #[.int (-50)], vm := .none },
  { cls := 9, slots := #[.int (-49)], vm := .none },
  { cls := 9, slots := #[.int (-48)], vm := .none },
  { cls := 9, slots := #[.int (-47)], vm := .none },
  { cls := 9, slots := #[.int (-46)], vm := .none },
  { cls := 9, slots := #[.int (-45)], vm := .none },
  { cls := 9, slots := #[.int (-44)], vm := .none },
  { cls := 9, slots := #[.int (-43)], vm := .none },
  { cls := 9, slots := #[.int (-42)], vm := .none },
  { cls := 9, slots := #[.int (-41)], vm := .none },
  { cls := 9, slots := #[.int (-40)], vm := .none },
  { cls := 9, slots := #[.int (-39)], vm := .none },
  { cls := 9, slots := #[.int (-38)], vm := .none },
  { cls := 9, slots := #[.int (-37)], vm := .none },
  { cls := 9, slots := #[.int (-36)], vm := .none },
  { cls := 9, slots := #[.int (-35)], vm := .none },
  { cls := 9, slots := #[.int (-34)], vm := .none },
  { cls := 9, slots := #[.int (-33)], vm := .none },
  { cls := 9, slots := #[.int (-32)], vm := .none },
  { cls := 9, slots := #[.int (-31)], vm := .none },
  { cls := 9, slots := #[.int (-30)], vm := .none },
  { cls := 9, slots := #[.int (-29)], vm := .none },
  { cls := 9, slots := #[.int (-28)], vm := .none },
  { cls := 9, slots := #[.int (-27)], vm := .none },
  { cls := 9, slots := #[.int (-26)], vm := .none },
  { cls := 9, slots := #[.int (-25)], vm := .none },
  { cls := 9, slots := #[.int (-24)], vm := .none },
  { cls := 9, slots := #[.int (-23)], vm := .none },
  { cls := 9, slots := #[.int (-22)], vm := .none },
  { cls := 9, slots := #[.int (-21)], vm := .none },
  { cls := 9, slots := #[.int (-20)], vm := .none },
  { cls := 9, slots := #[.int (-19)], vm := .none },
  { cls := 9, slots := #[.int (-18)], vm := .none },
  { cls := 9, slots := #[.int (-17)], vm := .none },
  { cls := 9, slots := #[.int (-16)], vm := .none },
  { cls := 9, slots := #[.int (-15)], vm := .none },
  { cls := 9, slots := #[.int (-14)], vm := .none },
  { cls := 9, slots := #[.int (-13)], vm := .none },
  { cls := 9, slots := #[.int (-12)], vm := .none },
  { cls := 9, slots := #[.int (-11)], vm := .none },
  { cls := 9, slots := #[.int (-10)], vm := .none },
  { cls := 9, slots := #[.int (-9)], vm := .none },
  { cls := 9, slots := #[.int (-8)], vm := .none },
  { cls := 9, slots := #[.int (-7)], vm := .none },
  { cls := 9, slots := #[.int (-6)], vm := .none },
  { cls := 9, slots := #[.int (-5)], vm := .none },
  { cls := 9, slots := #[.int (-4)], vm := .none },
  { cls := 9, slots := #[.int (-3)], vm := .none },
  { cls := 9, slots := #[.int (-2)], vm := .none },
  { cls := 9, slots := #[.int (-1)], vm := .none },
  { cls := 9, slots := #[.int (0)], vm := .none },
  { cls := 9, slots := #[.int (1)], vm := .none },
  { cls := 9, slots := #[.int (2)], vm := .none },
  { cls := 9, slots := #[.int (3)], vm := .none },
  { cls := 9, slots := #[.int (4)], vm := .none },
  { cls := 9, slots := #[.int (5)], vm := .none },
  { cls := 9, slots := #[.int (6)], vm := .none },
  { cls := 9, slots := #[.int (7)], vm := .none },
  { cls := 9, slots := #[.int (8)], vm := .none },
  { cls := 9, slots := #[.int (9)], vm := .none },
  { cls := 9, slots := #[.int (10)], vm := .none },
  { cls := 9, slots := #[.int (11)], vm := .none },
  { cls := 9, slots := #[.int (12)], vm := .none },
  { cls := 9, slots := #[.int (13)], vm := .none },
  { cls := 9, slots := #[.int (14)], vm := .none },
  { cls := 9, slots := #[.int (15)], vm := .none },
  { cls := 9, slots := #[.int (16)], vm := .none },
  { cls := 9, slots := #[.int (17)], vm := .none },
  { cls := 9, slots := #[.int (18)], vm := .none },
  { cls := 9, slots := #[.int (19)], vm := .none },
  { cls := 9, slots := #[.int (20)], vm := .none },
  { cls := 9, slots := #[.int (21)], vm := .none },
  { cls := 9, slots := #[.int (22)], vm := .none },
  { cls := 9, slots := #[.int (23)], vm := .none },
  { cls := 9, slots := #[.int (24)], vm := .none },
  { cls := 9, slots := #[.int (25)], vm := .none },
  { cls := 9, slots := #[.int (26)], vm := .none },
  { cls := 9, slots := #[.int (27)], vm := .none },
  { cls := 9, slots := #[.int (28)], vm := .none },
  { cls := 9, slots := #[.int (29)], vm := .none },
  { cls := 9, slots := #[.int (30)], vm := .none },
  { cls := 9, slots := #[.int (31)], vm := .none },
  { cls := 9, slots := #[.int (32)], vm := .none },
  { cls := 9, slots := #[.int (33)], vm := .none },
  { cls := 9, slots := #[.int (34)], vm := .none },
  { cls := 9, slots := #[.int (35)], vm := .none },
  { cls := 9, slots := #[.int (36)], vm := .none },
  { cls := 9, slots := #[.int (37)], vm := .none },
  { cls := 9, slots := #[.int (38)], vm := .none },
  { cls := 9, slots := #[.int (39)], vm := .none },
  { cls := 9, slots := #[.int (40)], vm := .none },
  { cls := 9, slots := #[.int (41)], vm := .none },
  { cls := 9, slots := #[.int (42)], vm := .none },
  { cls := 9, slots := #[.int (43)], vm := .none },
  { cls := 9, slots := #[.int (44)], vm := .none },
  { cls := 9, slots := #[.int (45)], vm := .none },
  { cls := 9, slots := #[.int (46)], vm := .none },
  { cls := 9, slots := #[.int (47)], vm := .none },
  { cls := 9, slots := #[.int (48)], vm := .none },
  { cls := 9, slots := #[.int (49)], vm := .none },
  { cls := 9, slots := #[.int (50)], vm := .none },
  { cls := 9, slots := #[.int (51)], vm := .none },
  { cls := 9, slots := #[.int (52)], vm := .none },
  { cls := 9, slots := #[.int (53)], vm := .none },
  { cls := 9, slots := #[.int (54)], vm := .none },
  { cls := 9, slots := #[.int (55)], vm := .none },
  { cls := 9, slots := #[.int (56)], vm := .none },
  { cls := 9, slots := #[.int (57)], vm := .none },
  { cls := 9, slots := #[.int (58)], vm := .none },
  { cls := 9, slots := #[.int (59)], vm := .none },
  { cls := 9, slots := #[.int (60)], vm := .none },
  { cls := 9, slots := #[.int (61)], vm := .none },
  { cls := 9, slots := #[.int (62)], vm := .none },
  { cls := 9, slots := #[.int (63)], vm := .none },
  { cls := 9, slots := #[.int (64)], vm := .none },
  { cls := 9, slots := #[.int (65)], vm := .none },
  { cls := 9, slots := #[.int (66)], vm := .none },
  { cls := 9, slots := #[.int (67)], vm := .none },
  { cls := 9, slots := #[.int (68)], vm := .none },
  { cls := 9, slots := #[.int (69)], vm := .none },
  { cls := 9, slots := #[.int (70)], vm := .none },
  { cls := 9, slots := #[.int (71)], vm := .none },
  { cls := 9, slots := #[.int (72)], vm := .none },
  { cls := 9, slots := #[.int (73)], vm := .none },
  { cls := 9, slots := #[.int (74)], vm := .none },
  { cls := 9, slots := #[.int (75)], vm := .none },
  { cls := 9, slots := #[.int (76)], vm := .none },
  { cls := 9, slots := #[.int (77)], vm := .none },
  { cls := 9, slots := #[.int (78)], vm := .none },
  { cls := 9, slots := #[.int (79)], vm := .none },
  { cls := 9, slots := #[.int (80)], vm := .none },
  { cls := 9, slots := #[.int (81)], vm := .none },
  { cls := 9, slots := #[.int (82)], vm := .none },
  { cls := 9, slots := #[.int (83)], vm := .none },
  { cls := 9, slots := #[.int (84)], vm := .none },
  { cls := 9, slots := #[.int (85)], vm := .none },
  { cls := 9, slots := #[.int (86)], vm := .none },
  { cls := 9, slots := #[.int (87)], vm := .none },
  { cls := 9, slots := #[.int (88)], vm := .none },
  { cls := 9, slots := #[.int (89)], vm := .none },
  { cls := 9, slots := #[.int (90)], vm := .none },
  { cls := 9, slots := #[.int (91)], vm := .none },
  { cls := 9, slots := #[.int (92)], vm := .none },
  { cls := 9, slots := #[.int (93)], vm := .none },
  { cls := 9, slots := #[.int (94)], vm := .none },
  { cls := 9, slots := #[.int (95)], vm := .none },
  { cls := 9, slots := #[.int (96)], vm := .none },
  { cls := 9, slots := #[.int (97)], vm := .none },
  { cls := 9, slots := #[.int (98)], vm := .none },
  { cls := 9, slots := #[.int (99)], vm := .none },
  { cls := 9, slots := #[.int (100)], vm := .none },
  { cls := 9, slots := #[.int (101)], vm := .none },
  { cls := 9, slots := #[.int (102)], vm := .none },
  { cls := 9, slots := #[.int (103)], vm := .none },
  { cls := 9, slots := #[.int (104)], vm := .none },
  { cls := 9, slots := #[.int (105)], vm := .none },
  { cls := 9, slots := #[.int (106)], vm := .none },
  { cls := 9, slots := #[.int (107)], vm := .none },
  { cls := 9, slots := #[.int (108)], vm := .none },
  { cls := 9, slots := #[.int (109)], vm := .none },
  { cls := 9, slots := #[.int (110)], vm := .none },
  { cls := 9, slots := #[.int (111)], vm := .none },
  { cls := 9, slots := #[.int (112)], vm := .none },
  { cls := 9, slots := #[.int (113)], vm := .none },
  { cls := 9, slots := #[.int (114)], vm := .none },
  { cls := 9, slots := #[.int (115)], vm := .none },
  { cls := 9, slots := #[.int (116)], vm := .none },
  { cls := 9, slots := #[.int (117)], vm := .none },
  { cls := 9, slots := #[.int (118)], vm := .none },
  { cls := 9, slots := #[.int (119)], vm := .none },
  { cls := 9, slots := #[.int (120)], vm := .none },
  { cls := 9, slots := #[.int (121)], vm := .none },
  { cls := 9, slots := #[.int (122)], vm := .none },
  { cls := 9, slots := #[.int (123)], vm := .none },
  { cls := 9, slots := #[.int (124)], vm := .none },
  { cls := 9, slots := #[.int (125)], vm := .none },
  { cls := 9, slots := #[.int (126)], vm := .none },
  { cls := 9, slots := #[.int (127)], vm := .none }]
def classes : Array Class := #[k0, k1, k2, k3, k4, k5, k6, k7, k8, k9, k10, k11, k12, k13, k14, k15, k16]
def interned : List (Array UInt16 × Addr) := []
def slotsUsed : Nat := 517
def theMethod : MethodId := ⟨1, 1⟩
def args0 : Array Value := #[.int 5, .long 7, .int 9, .long 11, .int 2]
def aboutOver (below : List Frame) : State where
  vm := { classes := classes, interned := interned.toArray }
  heap := heap
  slotsUsed := slotsUsed
  threads := #[{ frames := .invoking theMethod args0 :: below }]
def below0 : List Frame := [.native { method := ⟨0, 0⟩, args := #[] }]
def about1 : State := aboutOver below0
def p0 : Program := .bare "" "" ""
def e0 : Env := launch0.env 0 0 0
theorem w_frames : about1.frames = Frame.invoking theMethod args0 :: below0 := rfl
set_option maxRecDepth 65536 in
theorem w_args : argsFit about1.vm theMethod args0 = true := by decide +kernel
set_option maxRecDepth 65536 in
theorem w_heap : heapFits about1 = true := by decide +kernel
set_option maxRecDepth 65536 in
theorem w_runnable : about1.curStatus? = some .runnable := by decide +kernel
set_option maxRecDepth 65536 in
theorem w_alone : about1.alone = true := by decide +kernel
set_option maxRecDepth 65536 in
theorem w_named : about1.methodNamed? x = some theMethod := by decide +kernel
set_option maxRecDepth 65536 in
theorem w_hears : about1.hears theMethod below0 = true := by decide +kernel
set_option maxRecDepth 65536 in
theorem w_ripe : about1.ripe theMethod args0 below0 = true := by decide +kernel
theorem w_running : about1.status = .running := rfl
set_option maxRecDepth 65536 in
theorem w_room : about1.hasRoom e0.platform room_1 = true :=
  launch0.hasRoom_least _ room_1 (by decide +kernel) (by decide +kernel) (by decide +kernel) (by decide +kernel) (by decide +kernel) (by decide +kernel)
theorem allAtoms_all (ts : List Jvm.Cond) (a : Array Jvm.Value) (st : Jvm.State) : (allAtoms ts).before a st = ts.all (fun c => c.before a st) := by
  induction ts with
  | nil => rfl
  | cons c t ih =>
    show (Jvm.Cond.and c (allAtoms t)).before a st = _
    rw [Jvm.Cond.before_and, ih, List.all_cons]
def words1 : List Jvm.Cond := Jvm.Cond.code x code maxLocals ret :: tables_1
/-- a 'code' word, met by the world's own term for the bytes: nothing is compared byte by byte -/
theorem code_word {y : MethodName} {bytes : ByteArray} {mx : Nat} {rt : Option FieldType} {a : Array Value} {s : State} {m : MethodId} {meth : Method} {c : Code} (h1 : s.methodNamed? y = some m) (h2 : s.vm.method? m = some meth) (h3 : meth.code = some c) (h4 : c.code = bytes)
    (h5 : (c.maxLocals == mx && c.exceptionTable.isEmpty && decide (c.maxStack ≤ mostOperands) && decide (meth.sig.returnType = rt) && !meth.locks && decide (parseMethodDescriptor y.desc = some meth.sig)) = true) : (Jvm.Cond.code y bytes mx rt).before a s = true := by
  simp only [Bool.and_eq_true, beq_iff_eq, Bool.not_eq_true', decide_eq_true_eq] at h5
  obtain ⟨⟨⟨⟨⟨g1, g2⟩, g3⟩, g4⟩, g5⟩, g6⟩ := h5
  simp [Cond.before, Cond.holds, Cond.value, h1, h2, h3, h4, g1, g2, g3, g4, g5, g6]
def isCode : Jvm.Cond → Bool
  | .code _ _ _ _ => true
  | _ => false
theorem all_split {L : List Jvm.Cond} {P : Jvm.Cond → Bool} (h1 : L.all (fun c => isCode c || P c) = true) (h2 : ∀ c ∈ L.filter isCode, P c = true) : L.all P = true := by
  refine List.all_eq_true.mpr fun c hc => ?_
  have h := List.all_eq_true.mp h1 c hc
  rcases Bool.eq_false_or_eq_true (isCode c) with hi | hi
  · exact h2 c (List.mem_filter.mpr ⟨hc, hi⟩)
  · simpa [hi] using h
set_option maxRecDepth 65536 in
theorem w_c0 : (Jvm.Cond.code x code maxLocals ret).before args0 about1 = true := code_word (m := ⟨1, 1⟩) (meth := k1m1) (c := k1c1) (by decide +kernel) rfl rfl rfl (by decide +kernel)
set_option maxRecDepth 65536 in
theorem w_c1 : (Jvm.Cond.code ({ cls := "com/example/totality/totality/core/Label", name := "<init>", desc := "(IJ)V" } : Jvm.MethodName) prog_36_method_1_code (4 : Nat) (Option.none : Option Jvm.ClassFile.FieldType)).before args0 about1 = true := code_word (m := ⟨4, 0⟩) (meth := k4m0) (c := k4c0) (by decide +kernel) rfl rfl rfl (by decide +kernel)
set_option maxRecDepth 65536 in
theorem w_c2 : (Jvm.Cond.code ({ cls := "java/lang/Record", name := "<init>", desc := "()V" } : Jvm.MethodName) jdk_30_method_1_code (1 : Nat) (Option.none : Option Jvm.ClassFile.FieldType)).before args0 about1 = true := code_word (m := ⟨2, 0⟩) (meth := k2m0) (c := k2c0) (by decide +kernel) rfl rfl rfl (by decide +kernel)
set_option maxRecDepth 65536 in
theorem w_c3 : (Jvm.Cond.code ({ cls := "java/lang/Object", name := "<init>", desc := "()V" } : Jvm.MethodName) object_method_1_code (1 : Nat) (Option.none : Option Jvm.ClassFile.FieldType)).before args0 about1 = true := code_word (m := ⟨0, 0⟩) (meth := k0m0) (c := k0c0) (by decide +kernel) rfl rfl rfl (by decide +kernel)
set_option maxRecDepth 65536 in
theorem w_c4 : (Jvm.Cond.code ({ cls := "com/example/totality/totality/core/Label", name := "equals", desc := "(Ljava/lang/Object;)Z" } : Jvm.MethodName) prog_36_method_3_code (3 : Nat) (Option.some Jvm.ClassFile.FieldType.boolean)).before args0 about1 = true := code_word (m := ⟨4, 1⟩) (meth := k4m1) (c := k4c1) (by decide +kernel) rfl rfl rfl (by decide +kernel)
set_option maxRecDepth 65536 in
theorem w_c5 : (Jvm.Cond.code ({ cls := "java/lang/Integer", name := "valueOf", desc := "(I)Ljava/lang/Integer;" } : Jvm.MethodName) jdk_33_method_22_code (1 : Nat) (Option.some (Jvm.ClassFile.FieldType.object "java/lang/Integer"))).before args0 about1 = true := code_word (m := ⟨9, 0⟩) (meth := k9m0) (c := k9c0) (by decide +kernel) rfl rfl rfl (by decide +kernel)
set_option maxRecDepth 65536 in
theorem w_c6 : (Jvm.Cond.code ({ cls := "java/lang/Integer", name := "<init>", desc := "(I)V" } : Jvm.MethodName) jdk_33_method_23_code (2 : Nat) (Option.none : Option Jvm.ClassFile.FieldType)).before args0 about1 = true := code_word (m := ⟨9, 1⟩) (meth := k9m1) (c := k9c1) (by decide +kernel) rfl rfl rfl (by decide +kernel)
set_option maxRecDepth 65536 in
theorem w_c7 : (Jvm.Cond.code ({ cls := "java/lang/Number", name := "<init>", desc := "()V" } : Jvm.MethodName) jdk_18_method_1_code (1 : Nat) (Option.none : Option Jvm.ClassFile.FieldType)).before args0 about1 = true := code_word (m := ⟨6, 0⟩) (meth := k6m0) (c := k6c0) (by decide +kernel) rfl rfl rfl (by decide +kernel)
def codes1 : List Jvm.Cond := [Jvm.Cond.code x code maxLocals ret, Jvm.Cond.code ({ cls := "com/example/totality/totality/core/Label", name := "<init>", desc := "(IJ)V" } : Jvm.MethodName) prog_36_method_1_code (4 : Nat) (Option.none : Option Jvm.ClassFile.FieldType), Jvm.Cond.code ({ cls := "java/lang/Record", name := "<init>", desc := "()V" } : Jvm.MethodName) jdk_30_method_1_code (1 : Nat) (Option.none : Option Jvm.ClassFile.FieldType), Jvm.Cond.code ({ cls := "java/lang/Object", name := "<init>", desc := "()V" } : Jvm.MethodName) object_method_1_code (1 : Nat) (Option.none : Option Jvm.ClassFile.FieldType), Jvm.Cond.code ({ cls := "com/example/totality/totality/core/Label", name := "equals", desc := "(Ljava/lang/Object;)Z" } : Jvm.MethodName) prog_36_method_3_code (3 : Nat) (Option.some Jvm.ClassFile.FieldType.boolean), Jvm.Cond.code ({ cls := "java/lang/Integer", name := "valueOf", desc := "(I)Ljava/lang/Integer;" } : Jvm.MethodName) jdk_33_method_22_code (1 : Nat) (Option.some (Jvm.ClassFile.FieldType.object "java/lang/Integer")), Jvm.Cond.code ({ cls := "java/lang/Integer", name := "<init>", desc := "(I)V" } : Jvm.MethodName) jdk_33_method_23_code (2 : Nat) (Option.none : Option Jvm.ClassFile.FieldType), Jvm.Cond.code ({ cls := "java/lang/Number", name := "<init>", desc := "()V" } : Jvm.MethodName) jdk_18_method_1_code (1 : Nat) (Option.none : Option Jvm.ClassFile.FieldType)]
set_option maxRecDepth 65536 in
theorem codes_eq : words1.filter isCode = codes1 := rfl
theorem w_codes : ∀ c ∈ words1.filter isCode, c.before args0 about1 = true := by
  rw [codes_eq]
  intro c hc
  simp only [codes1, List.mem_cons, List.not_mem_nil, or_false] at hc
  rcases hc with rfl | rfl | rfl | rfl | rfl | rfl | rfl | rfl
  · exact w_c0
  · exact w_c1
  · exact w_c2
  · exact w_c3
  · exact w_c4
  · exact w_c5
  · exact w_c6
  · exact w_c7
set_option maxRecDepth 65536 in
theorem w_t1 : (words1.take 24).all (fun c => isCode c || c.before args0 about1) = true := by decide +kernel
set_option maxRecDepth 65536 in
theorem w_t2 : ((words1.drop 24).take 24).all (fun c => isCode c || c.before args0 about1) = true := by decide +kernel
set_option maxRecDepth 65536 in
theorem w_t3 : ((words1.drop 24).drop 24).all (fun c => isCode c || c.before args0 about1) = true := by decide +kernel
theorem w_tables : (allAtoms (Jvm.Cond.code x code maxLocals ret :: tables_1)).before args0 about1 = true := by
  rw [allAtoms_all]
  show words1.all (fun c => c.before args0 about1) = true
  refine all_split ?_ w_codes
  rw [← List.take_append_drop 24 words1, List.all_append, w_t1, ← List.take_append_drop 24 (words1.drop 24), List.all_append, w_t2, w_t3]
  rfl
set_option maxRecDepth 65536 in
theorem w_rest : rest_1_c.before args0 about1 = true := by decide +kernel
set_option maxRecDepth 65536 in
theorem w_case : (Jvm.Cond.and given_1 narrow_1).before args0 about1 = true := by decide +kernel
theorem w_applies : (headSpec (Jvm.Cond.code x code maxLocals ret :: tables_1) room_1).applies x e0.platform about1 = true :=
  (Spec.applies_iff w_frames).mpr ⟨w_running, w_runnable, w_alone, w_named, w_hears, w_ripe, w_room, w_tables⟩
theorem atStart : AtStart classFile x code maxLocals ret World_1 tables_1 room_1 Calls_1 rest_1 Pre_1 launch0 p0 e0 about1 theMethod args0 below0 :=
  ⟨lists_1, trivial, launch0.admits_env _ _ _, launch0.least_env, fairChoices_fair.cas, fairChoices_fair.clock, w_frames, w_args, w_heap, w_applies, trivial, w_rest, w_case⟩
end start1
theorem witness_1 : WitnessClaimed_1 := ⟨start1.p0, start1.e0, start1.about1, start1.theMethod, start1.args0, start1.below0, start1.atStart⟩
end Jvm.Pilot.@@N@@
