import JvmDerived
import JvmDerived.Pilot.@@N@@Statement
import JvmDerived.Pilot.@@N@@Code
set_option linter.unusedVariables false
set_option linter.unusedSimpArgs false
namespace Jvm.RoadKit
theorem own_add32 {a b : Int32} (h1 : -2147483648 ≤ a.toInt + b.toInt) (h2 : a.toInt + b.toInt < 2147483648) : (a + b).toInt = a.toInt + b.toInt := by
  rw [Int32.toInt_add]; exact Int.bmod_eq_of_le (by omega) (by omega)
theorem own_sub32 {a b : Int32} (h1 : -2147483648 ≤ a.toInt - b.toInt) (h2 : a.toInt - b.toInt < 2147483648) : (a - b).toInt = a.toInt - b.toInt := by
  rw [Int32.toInt_sub]; exact Int.bmod_eq_of_le (by omega) (by omega)
theorem own_mul32 {a b : Int32} (h1 : -2147483648 ≤ a.toInt * b.toInt) (h2 : a.toInt * b.toInt < 2147483648) : (a * b).toInt = a.toInt * b.toInt := by
  rw [Int32.toInt_mul]; exact Int.bmod_eq_of_le (by omega) (by omega)
theorem own_add64 {a b : Int64} (h1 : -9223372036854775808 ≤ a.toInt + b.toInt) (h2 : a.toInt + b.toInt < 9223372036854775808) : (a + b).toInt = a.toInt + b.toInt := by
  rw [Int64.toInt_add]; exact Int.bmod_eq_of_le (by omega) (by omega)
theorem own_sub64 {a b : Int64} (h1 : -9223372036854775808 ≤ a.toInt - b.toInt) (h2 : a.toInt - b.toInt < 9223372036854775808) : (a - b).toInt = a.toInt - b.toInt := by
  rw [Int64.toInt_sub]; exact Int.bmod_eq_of_le (by omega) (by omega)
theorem own_mul64 {a b : Int64} (h1 : -9223372036854775808 ≤ a.toInt * b.toInt) (h2 : a.toInt * b.toInt < 9223372036854775808) : (a * b).toInt = a.toInt * b.toInt := by
  rw [Int64.toInt_mul]; exact Int.bmod_eq_of_le (by omega) (by omega)
/-- a mask that isn't negative -/
theorem own_mask32 (x k : Int32) (hk : 0 ≤ k.toInt) : 0 ≤ (x &&& k).toInt ∧ (x &&& k).toInt ≤ k.toInt := by
  have hk' : k.toBitVec.toNat < 2 ^ 31 := by
    have := k.toBitVec.isLt
    have e : k.toInt = k.toBitVec.toInt := rfl
    rw [e, BitVec.toInt_eq_toNat_cond] at hk
    split at hk <;> omega
  have h1 : (x &&& k).toInt = (x.toBitVec &&& k.toBitVec).toInt := rfl
  have h2 : (x.toBitVec &&& k.toBitVec).toNat ≤ k.toBitVec.toNat := by rw [BitVec.toNat_and]; exact Nat.and_le_right
  have e : k.toInt = k.toBitVec.toInt := rfl
  rw [h1, e, BitVec.toInt_eq_toNat_of_lt (by omega), BitVec.toInt_eq_toNat_of_lt (by omega)]; omega
theorem own_mask64 (x k : Int64) (hk : 0 ≤ k.toInt) : 0 ≤ (x &&& k).toInt ∧ (x &&& k).toInt ≤ k.toInt := by
  have hk' : k.toBitVec.toNat < 2 ^ 63 := by
    have := k.toBitVec.isLt
    have e : k.toInt = k.toBitVec.toInt := rfl
    rw [e, BitVec.toInt_eq_toNat_cond] at hk
    split at hk <;> omega
  have h1 : (x &&& k).toInt = (x.toBitVec &&& k.toBitVec).toInt := rfl
  have h2 : (x.toBitVec &&& k.toBitVec).toNat ≤ k.toBitVec.toNat := by rw [BitVec.toNat_and]; exact Nat.and_le_right
  have e : k.toInt = k.toBitVec.toInt := rfl
  rw [h1, e, BitVec.toInt_eq_toNat_of_lt (by omega), BitVec.toInt_eq_toNat_of_lt (by omega)]; omega
end Jvm.RoadKit
namespace Jvm.RoadKit
open Sem ClassFile Op Lib Jvm.Stand Jvm.Free Jvm.LawKit
section Own
variable {p : Program} {l : Launch} {e : Env} {R : Room} {s : State} {m : MethodId} {args : Array Value} {below : List Frame} {meth : Method} {c : Code} {T : State} {locs : List Loc} {cells slots : Nat} {Z : State} {h h' : Heap} {a b : Addr} {ty : FieldType} {n : Nat} {f f' : Nat → Value} {sl : Nat} {v : Value} {ws : List Addr}
/-- an array of n places, place i holds f i -/
def ArF (Z : State) (h : Heap) (a : Addr) (ty : FieldType) (n : Nat) (f : Nat → Value) : Prop := ∃ c : Cell, Arr Z h a c ty ∧ c.slots.size = n ∧ n < 2 ^ 31 ∧ ∀ i, i < n → c.slots[i]? = some (f i)
theorem ArF.lt (F : ArF Z h a ty n f) : a < h.size := by obtain ⟨c, A, -⟩ := F; exact A.lt
theorem ArF.ext (F : ArF Z h a ty n f) (E : Ext h h') : ArF Z h' a ty n f := by obtain ⟨c, A, r⟩ := F; exact ⟨c, A.ext E, r⟩
theorem ArF.other (F : ArF Z h a ty n f) (W : Wr h h' b sl v) (q : a ≠ b) : ArF Z h' a ty n f := by obtain ⟨c, A, r⟩ := F; exact ⟨c, A.other W q, r⟩
theorem ArF.keep (F : ArF Z h a ty n f) (K : Keep h h' ws) (q : a ∉ ws) : ArF Z h' a ty n f := by obtain ⟨c, A, r⟩ := F; exact ⟨c, ⟨K.2.1 a c A.1 q, A.2⟩, r⟩
theorem ArF.congr (F : ArF Z h a ty n f) (q : ∀ i, i < n → f i = f' i) : ArF Z h a ty n f' := by obtain ⟨c, A, r1, r2, r3⟩ := F; exact ⟨c, A, r1, r2, fun i hi => by rw [← q i hi]; exact r3 i hi⟩
theorem ArF.new {k : ClassId} {z : Int32} {dv : Value} (A : Arr Z h a (newA k ty z) ty) (q : ¬ z < 0) (hn : z.toNatClampNeg = n) (hdv : defaultValue ty = dv := by rfl) : ArF Z h a ty n (fun _ => dv) := by
  subst hn hdv
  refine ⟨_, A, sz_new _ _ _, (back32 q).2, fun i hi => ?_⟩
  simp [newA, hi]
theorem own_clamp {j : Int32} {i : Nat} (hj : j.toInt = (i : Int)) : j.toNatClampNeg = i := by
  show j.toInt.toNat = i
  rw [hj]; rfl
theorem own_inb {c : Cell} {j : Int32} {i : Nat} (S : c.slots.size = n) (hj : j.toInt = (i : Int)) (hi : i < n) : ¬ (j < 0 ∨ c.slots.size ≤ j.toNatClampNeg) := by
  rw [own_clamp hj, S]
  rintro (q | q)
  · rw [Int32.lt_iff_toInt_lt, hj] at q
    have : (0 : Int32).toInt = 0 := by decide
    omega
  · omega
theorem ArF.setW {i : Nat} {c : Cell} (A : Arr Z h a c ty) (S : c.slots.size = n) (q3 : n < 2 ^ 31) (H : ∀ k, k < n → c.slots[k]? = some (f k)) (W : Wr h h' a i v) : ArF Z h' a ty n (fun q => if q = i then v else f q) := by
  refine ⟨_, A.same W, by rw [sz_set, S], q3, fun k hk => ?_⟩
  by_cases e : k = i
  · subst e; simp [Cell.setSlot, S, hk]
  · simp only [if_neg e, Cell.setSlot]
    rw [Array.getElem?_setIfInBounds_ne (Ne.symm e)]; exact H k hk
theorem ArF.stI (X : Stand p l e R s m args below meth c T locs cells slots) (hx : p.tables.exec = Jvm.exec) (hZ : Z.Warmed39 s.vm) (eT : T.heap = h) (F : ArF Z h a .int n f) {j x : Int32} {i : Nat} (hj : j.toInt = (i : Int)) (hi : i < n) {g : JFrame} (hg : g.method = m) {rest : List Value} (hs : g.stack = .int x :: .int j :: .ref a :: rest) (hd : decode c.code g.pc = .ok (.iastore, 1)) :
    ∃ T' h', Stand p l e R s m args below meth c T' (locs ++ [⟨a, i⟩]) cells slots ∧ T'.heap = h' ∧ Wr h h' a i (.int x) ∧ ArF Z h' a .int n (fun q => if q = i then .int x else f q) ∧ ∀ target, Steps p.tables e below (T'.setTop { g with pc := g.pc + 1, stack := rest }) target → Steps p.tables e below (T.setTop g) target := by
  obtain ⟨c, A, S, q3, H⟩ := F
  obtain ⟨T', h', X', e', W, st⟩ := Jvm.RoadKit.stI X hx hZ eT A (own_inb S hj hi) hg hs hd
  rw [own_clamp hj] at X' W
  exact ⟨T', h', X', e', W, ArF.setW A S q3 H W, st⟩
theorem ArF.stJ (X : Stand p l e R s m args below meth c T locs cells slots) (hx : p.tables.exec = Jvm.exec) (hZ : Z.Warmed39 s.vm) (eT : T.heap = h) (F : ArF Z h a .long n f) {j : Int32} {x : Int64} {i : Nat} (hj : j.toInt = (i : Int)) (hi : i < n) {g : JFrame} (hg : g.method = m) {rest : List Value} (hs : g.stack = .long x :: .int j :: .ref a :: rest) (hd : decode c.code g.pc = .ok (.lastore, 1)) :
    ∃ T' h', Stand p l e R s m args below meth c T' (locs ++ [⟨a, i⟩]) cells slots ∧ T'.heap = h' ∧ Wr h h' a i (.long x) ∧ ArF Z h' a .long n (fun q => if q = i then .long x else f q) ∧ ∀ target, Steps p.tables e below (T'.setTop { g with pc := g.pc + 1, stack := rest }) target → Steps p.tables e below (T.setTop g) target := by
  obtain ⟨c, A, S, q3, H⟩ := F
  obtain ⟨T', h', X', e', W, st⟩ := Jvm.RoadKit.stJ X hx hZ eT A (own_inb S hj hi) hg hs hd
  rw [own_clamp hj] at X' W
  exact ⟨T', h', X', e', W, ArF.setW A S q3 H W, st⟩
theorem ArF.stB (X : Stand p l e R s m args below meth c T locs cells slots) (hx : p.tables.exec = Jvm.exec) (hZ : Z.Warmed39 s.vm) (eT : T.heap = h) (F : ArF Z h a .byte n f) {j x : Int32} {i : Nat} (hj : j.toInt = (i : Int)) (hi : i < n) {g : JFrame} (hg : g.method = m) {rest : List Value} (hs : g.stack = .int x :: .int j :: .ref a :: rest) (hd : decode c.code g.pc = .ok (.bastore, 1)) :
    ∃ T' h', Stand p l e R s m args below meth c T' (locs ++ [⟨a, i⟩]) cells slots ∧ T'.heap = h' ∧ Wr h h' a i (.int (nar .byte x)) ∧ ArF Z h' a .byte n (fun q => if q = i then .int (nar .byte x) else f q) ∧ ∀ target, Steps p.tables e below (T'.setTop { g with pc := g.pc + 1, stack := rest }) target → Steps p.tables e below (T.setTop g) target := by
  obtain ⟨c, A, S, q3, H⟩ := F
  obtain ⟨T', h', X', e', W, st⟩ := Jvm.RoadKit.stB X hx hZ eT A (own_inb S hj hi) hg hs hd
  rw [own_clamp hj] at X' W
  exact ⟨T', h', X', e', W, ArF.setW A S q3 H W, st⟩
theorem ArF.stC (X : Stand p l e R s m args below meth c T locs cells slots) (hx : p.tables.exec = Jvm.exec) (hZ : Z.Warmed39 s.vm) (eT : T.heap = h) (F : ArF Z h a .char n f) {j x : Int32} {i : Nat} (hj : j.toInt = (i : Int)) (hi : i < n) {g : JFrame} (hg : g.method = m) {rest : List Value} (hs : g.stack = .int x :: .int j :: .ref a :: rest) (hd : decode c.code g.pc = .ok (.castore, 1)) :
    ∃ T' h', Stand p l e R s m args below meth c T' (locs ++ [⟨a, i⟩]) cells slots ∧ T'.heap = h' ∧ Wr h h' a i (.int (nar .char x)) ∧ ArF Z h' a .char n (fun q => if q = i then .int (nar .char x) else f q) ∧ ∀ target, Steps p.tables e below (T'.setTop { g with pc := g.pc + 1, stack := rest }) target → Steps p.tables e below (T.setTop g) target := by
  obtain ⟨c, A, S, q3, H⟩ := F
  obtain ⟨T', h', X', e', W, st⟩ := Jvm.RoadKit.stC X hx hZ eT A (own_inb S hj hi) hg hs hd
  rw [own_clamp hj] at X' W
  exact ⟨T', h', X', e', W, ArF.setW A S q3 H W, st⟩
theorem ArF.ldI (X : Stand p l e R s m args below meth c T locs cells slots) (hx : p.tables.exec = Jvm.exec) (hZ : Z.Warmed39 s.vm) (eT : T.heap = h) (F : ArF Z h a .int n f) {j : Int32} {i : Nat} (hj : j.toInt = (i : Int)) (hi : i < n) {v : Int32} (hv : f i = .int v) {g : JFrame} (hg : g.method = m) {rest : List Value} (hs : g.stack = .int j :: .ref a :: rest) (hd : decode c.code g.pc = .ok (.iaload, 1)) :
    ∀ target, Steps p.tables e below (T.setTop { g with pc := g.pc + 1, stack := .int v :: rest }) target → Steps p.tables e below (T.setTop g) target := by
  obtain ⟨c, A, S, q3, H⟩ := F
  exact X.iaload hx (by rw [eT]; exact A.1) (State.isArrayOf_alike hZ.alike A.2.1) A.2.2 (own_inb S hj hi) (by rw [own_clamp hj, ← hv]; exact H i hi) hg hs hd
theorem ArF.ldJ (X : Stand p l e R s m args below meth c T locs cells slots) (hx : p.tables.exec = Jvm.exec) (hZ : Z.Warmed39 s.vm) (eT : T.heap = h) (F : ArF Z h a .long n f) {j : Int32} {i : Nat} (hj : j.toInt = (i : Int)) (hi : i < n) {v : Int64} (hv : f i = .long v) {g : JFrame} (hg : g.method = m) {rest : List Value} (hs : g.stack = .int j :: .ref a :: rest) (hd : decode c.code g.pc = .ok (.laload, 1)) :
    ∀ target, Steps p.tables e below (T.setTop { g with pc := g.pc + 1, stack := .long v :: rest }) target → Steps p.tables e below (T.setTop g) target := by
  obtain ⟨c, A, S, q3, H⟩ := F
  exact X.laload hx (by rw [eT]; exact A.1) (State.isArrayOf_alike hZ.alike A.2.1) A.2.2 (own_inb S hj hi) (by rw [own_clamp hj, ← hv]; exact H i hi) hg hs hd
theorem ArF.ldB (X : Stand p l e R s m args below meth c T locs cells slots) (hx : p.tables.exec = Jvm.exec) (hZ : Z.Warmed39 s.vm) (eT : T.heap = h) (F : ArF Z h a .byte n f) {j : Int32} {i : Nat} (hj : j.toInt = (i : Int)) (hi : i < n) {v : Int32} (hv : f i = .int v) {g : JFrame} (hg : g.method = m) {rest : List Value} (hs : g.stack = .int j :: .ref a :: rest) (hd : decode c.code g.pc = .ok (.baload, 1)) :
    ∀ target, Steps p.tables e below (T.setTop { g with pc := g.pc + 1, stack := .int v :: rest }) target → Steps p.tables e below (T.setTop g) target := by
  obtain ⟨c, A, S, q3, H⟩ := F
  exact X.baloadBytes hx (by rw [eT]; exact A.1) (State.isArrayOf_alike hZ.alike A.2.1) A.2.2 (own_inb S hj hi) (by rw [own_clamp hj, ← hv]; exact H i hi) hg hs hd
theorem ArF.ldC (X : Stand p l e R s m args below meth c T locs cells slots) (hx : p.tables.exec = Jvm.exec) (hZ : Z.Warmed39 s.vm) (eT : T.heap = h) (F : ArF Z h a .char n f) {j : Int32} {i : Nat} (hj : j.toInt = (i : Int)) (hi : i < n) {v : Int32} (hv : f i = .int v) {g : JFrame} (hg : g.method = m) {rest : List Value} (hs : g.stack = .int j :: .ref a :: rest) (hd : decode c.code g.pc = .ok (.caload, 1)) :
    ∀ target, Steps p.tables e below (T.setTop { g with pc := g.pc + 1, stack := .int v :: rest }) target → Steps p.tables e below (T.setTop g) target := by
  obtain ⟨c, A, S, q3, H⟩ := F
  exact X.caload hx (by rw [eT]; exact A.1) (State.isArrayOf_alike hZ.alike A.2.1) A.2.2 (own_inb S hj hi) (by rw [own_clamp hj, ← hv]; exact H i hi) hg hs hd
theorem ArF.len (X : Stand p l e R s m args below meth c T locs cells slots) (hx : p.tables.exec = Jvm.exec) (hZ : Z.Warmed39 s.vm) (eT : T.heap = h) (F : ArF Z h a ty n f) {g : JFrame} (hg : g.method = m) {rest : List Value} (hs : g.stack = .ref a :: rest) (hd : decode c.code g.pc = .ok (.arraylength, 1)) :
    ∀ target, Steps p.tables e below (T.setTop { g with pc := g.pc + 1, stack := .int (Int32.ofNat n) :: rest }) target → Steps p.tables e below (T.setTop g) target := by
  obtain ⟨c, A, S, q3, H⟩ := F
  have q := X.arraylength hx (by rw [eT]; exact A.1) (State.isArrayOf_alike hZ.alike A.2.1) hg hs hd
  rw [S] at q
  exact q
theorem own_more (X : Stand p l e R s m args below meth c T locs cells slots) {k n : Nat} (h1 : cells ≤ k) (h2 : slots ≤ n) : Stand p l e R s m args below meth c T locs k n :=
  { X with same := X.same.mono h1 h2 }
theorem own_selP {Z s : State} {a0 args : Array Value} {y : MethodName} {k : Nat} (hZ : Z.Warmed39 s.vm) (wi : (Cond.instantiable y.cls k).before a0 Z = true) (wp : (Cond.privateMethod y).before a0 Z = true) (wm : (Cond.instanceMethod y).before a0 Z = true) (hy : y.cls ≠ "java/lang/invoke/MethodHandle" ∧ y.cls ≠ "java/lang/invoke/VarHandle") : (Cond.selects y.cls y y).before args s = true := by
  have wi' : (Cond.instantiable y.cls k).before args s = true := mvT hZ wi
  obtain ⟨c, q, h1, h2, -, h4, -⟩ := Cond.instantiable_spec wi'
  simp only [Bool.or_eq_false_iff] at h4
  exact Jvm.Stand.selects_self_of_private h1 h2 h4.1 (Cond.privateMethod_at (mvP hZ wp (args := args))) (mvT hZ wm) hy
end Own
end Jvm.RoadKit
namespace Jvm.Pilot.@@N@@
open Jvm Jvm.ClassFile Sem Op Lib Jvm.Free Jvm.Stand Jvm.LawKit Jvm.RoadKit Bundle Jvm.Pilot.@@N@@.Jvm.D
theorem d1_0 : decode prog_31_method_1_code 0 = .ok (.aload_n 0, 1) := by decide +kernel
theorem d1_1 : decode prog_31_method_1_code 1 = .ok (.invokespecial 1, 3) := by decide +kernel
theorem d1_4 : decode prog_31_method_1_code 4 = .ok (.aload_n 0, 1) := by decide +kernel
theorem d1_5 : decode prog_31_method_1_code 5 = .ok (.iload_n 1, 1) := by decide +kernel
theorem d1_6 : decode prog_31_method_1_code 6 = .ok (.putfield 7, 3) := by decide +kernel
theorem d1_9 : decode prog_31_method_1_code 9 = .ok (.aload_n 0, 1) := by decide +kernel
theorem d1_10 : decode prog_31_method_1_code 10 = .ok (.iload_n 1, 1) := by decide +kernel
theorem d1_11 : decode prog_31_method_1_code 11 = .ok (.newarray .byte, 2) := by decide +kernel
theorem d1_13 : decode prog_31_method_1_code 13 = .ok (.putfield 13, 3) := by decide +kernel
theorem d1_16 : decode prog_31_method_1_code 16 = .ok (.return_, 1) := by decide +kernel
theorem d3_0 : decode prog_31_method_4_code 0 = .ok (.aload_n 0, 1) := by decide +kernel
theorem d3_1 : decode prog_31_method_4_code 1 = .ok (.getfield 13, 3) := by decide +kernel
theorem d3_4 : decode prog_31_method_4_code 4 = .ok (.ifnull 25, 3) := by decide +kernel
theorem d3_7 : decode prog_31_method_4_code 7 = .ok (.iload_n 2, 1) := by decide +kernel
theorem d3_8 : decode prog_31_method_4_code 8 = .ok (.ifCond .lt 21, 3) := by decide +kernel
theorem d3_11 : decode prog_31_method_4_code 11 = .ok (.iload_n 2, 1) := by decide +kernel
theorem d3_12 : decode prog_31_method_4_code 12 = .ok (.sipush 255, 3) := by decide +kernel
theorem d3_15 : decode prog_31_method_4_code 15 = .ok (.if_icmp .gt 14, 3) := by decide +kernel
theorem d3_18 : decode prog_31_method_4_code 18 = .ok (.aload_n 0, 1) := by decide +kernel
theorem d3_19 : decode prog_31_method_4_code 19 = .ok (.getfield 13, 3) := by decide +kernel
theorem d3_22 : decode prog_31_method_4_code 22 = .ok (.iload_n 1, 1) := by decide +kernel
theorem d3_23 : decode prog_31_method_4_code 23 = .ok (.iload_n 2, 1) := by decide +kernel
theorem d3_24 : decode prog_31_method_4_code 24 = .ok (.i2b, 1) := by decide +kernel
theorem d3_25 : decode prog_31_method_4_code 25 = .ok (.bastore, 1) := by decide +kernel
theorem d3_26 : decode prog_31_method_4_code 26 = .ok (.goto 59, 3) := by decide +kernel
theorem d3_29 : decode prog_31_method_4_code 29 = .ok (.aload_n 0, 1) := by decide +kernel
theorem d3_30 : decode prog_31_method_4_code 30 = .ok (.getfield 23, 3) := by decide +kernel
theorem d3_33 : decode prog_31_method_4_code 33 = .ok (.ifnull 24, 3) := by decide +kernel
theorem d3_36 : decode prog_31_method_4_code 36 = .ok (.iload_n 2, 1) := by decide +kernel
theorem d3_37 : decode prog_31_method_4_code 37 = .ok (.ifCond .lt 20, 3) := by decide +kernel
theorem d3_40 : decode prog_31_method_4_code 40 = .ok (.iload_n 2, 1) := by decide +kernel
theorem d3_41 : decode prog_31_method_4_code 41 = .ok (.ldc 39, 2) := by decide +kernel
theorem d3_43 : decode prog_31_method_4_code 43 = .ok (.if_icmp .gt 14, 3) := by decide +kernel
theorem d3_46 : decode prog_31_method_4_code 46 = .ok (.aload_n 0, 1) := by decide +kernel
theorem d3_47 : decode prog_31_method_4_code 47 = .ok (.getfield 23, 3) := by decide +kernel
theorem d3_50 : decode prog_31_method_4_code 50 = .ok (.iload_n 1, 1) := by decide +kernel
theorem d3_51 : decode prog_31_method_4_code 51 = .ok (.iload_n 2, 1) := by decide +kernel
theorem d3_52 : decode prog_31_method_4_code 52 = .ok (.i2c, 1) := by decide +kernel
theorem d3_53 : decode prog_31_method_4_code 53 = .ok (.castore, 1) := by decide +kernel
theorem d3_54 : decode prog_31_method_4_code 54 = .ok (.goto 31, 3) := by decide +kernel
theorem d3_57 : decode prog_31_method_4_code 57 = .ok (.aload_n 0, 1) := by decide +kernel
theorem d3_58 : decode prog_31_method_4_code 58 = .ok (.getfield 30, 3) := by decide +kernel
theorem d3_61 : decode prog_31_method_4_code 61 = .ok (.ifnull 13, 3) := by decide +kernel
theorem d3_64 : decode prog_31_method_4_code 64 = .ok (.aload_n 0, 1) := by decide +kernel
theorem d3_65 : decode prog_31_method_4_code 65 = .ok (.getfield 30, 3) := by decide +kernel
theorem d3_68 : decode prog_31_method_4_code 68 = .ok (.iload_n 1, 1) := by decide +kernel
theorem d3_69 : decode prog_31_method_4_code 69 = .ok (.iload_n 2, 1) := by decide +kernel
theorem d3_70 : decode prog_31_method_4_code 70 = .ok (.iastore, 1) := by decide +kernel
theorem d3_71 : decode prog_31_method_4_code 71 = .ok (.goto 14, 3) := by decide +kernel
theorem d3_74 : decode prog_31_method_4_code 74 = .ok (.aload_n 0, 1) := by decide +kernel
theorem d3_75 : decode prog_31_method_4_code 75 = .ok (.iload_n 2, 1) := by decide +kernel
theorem d3_76 : decode prog_31_method_4_code 76 = .ok (.invokevirtual 40, 3) := by decide +kernel
theorem d3_79 : decode prog_31_method_4_code 79 = .ok (.aload_n 0, 1) := by decide +kernel
theorem d3_80 : decode prog_31_method_4_code 80 = .ok (.iload_n 1, 1) := by decide +kernel
theorem d3_81 : decode prog_31_method_4_code 81 = .ok (.iload_n 2, 1) := by decide +kernel
theorem d3_82 : decode prog_31_method_4_code 82 = .ok (.invokevirtual 44, 3) := by decide +kernel
theorem d3_85 : decode prog_31_method_4_code 85 = .ok (.return_, 1) := by decide +kernel
theorem d4_0 : decode prog_31_method_5_code 0 = .ok (.aload_n 0, 1) := by decide +kernel
theorem d4_1 : decode prog_31_method_5_code 1 = .ok (.getfield 13, 3) := by decide +kernel
theorem d4_4 : decode prog_31_method_5_code 4 = .ok (.ifnull 14, 3) := by decide +kernel
theorem d4_7 : decode prog_31_method_5_code 7 = .ok (.aload_n 0, 1) := by decide +kernel
theorem d4_8 : decode prog_31_method_5_code 8 = .ok (.getfield 13, 3) := by decide +kernel
theorem d4_11 : decode prog_31_method_5_code 11 = .ok (.iload_n 1, 1) := by decide +kernel
theorem d4_12 : decode prog_31_method_5_code 12 = .ok (.baload, 1) := by decide +kernel
theorem d4_13 : decode prog_31_method_5_code 13 = .ok (.sipush 255, 3) := by decide +kernel
theorem d4_16 : decode prog_31_method_5_code 16 = .ok (.iand, 1) := by decide +kernel
theorem d4_17 : decode prog_31_method_5_code 17 = .ok (.ireturn, 1) := by decide +kernel
theorem d4_18 : decode prog_31_method_5_code 18 = .ok (.aload_n 0, 1) := by decide +kernel
theorem d4_19 : decode prog_31_method_5_code 19 = .ok (.getfield 23, 3) := by decide +kernel
theorem d4_22 : decode prog_31_method_5_code 22 = .ok (.ifnull 10, 3) := by decide +kernel
theorem d4_25 : decode prog_31_method_5_code 25 = .ok (.aload_n 0, 1) := by decide +kernel
theorem d4_26 : decode prog_31_method_5_code 26 = .ok (.getfield 23, 3) := by decide +kernel
theorem d4_29 : decode prog_31_method_5_code 29 = .ok (.iload_n 1, 1) := by decide +kernel
theorem d4_30 : decode prog_31_method_5_code 30 = .ok (.caload, 1) := by decide +kernel
theorem d4_31 : decode prog_31_method_5_code 31 = .ok (.ireturn, 1) := by decide +kernel
theorem d4_32 : decode prog_31_method_5_code 32 = .ok (.aload_n 0, 1) := by decide +kernel
theorem d4_33 : decode prog_31_method_5_code 33 = .ok (.getfield 30, 3) := by decide +kernel
theorem d4_36 : decode prog_31_method_5_code 36 = .ok (.iload_n 1, 1) := by decide +kernel
theorem d4_37 : decode prog_31_method_5_code 37 = .ok (.iaload, 1) := by decide +kernel
theorem d4_38 : decode prog_31_method_5_code 38 = .ok (.ireturn, 1) := by decide +kernel
theorem d5_0 : decode prog_31_method_6_code 0 = .ok (.aload_n 0, 1) := by decide +kernel
theorem d5_1 : decode prog_31_method_6_code 1 = .ok (.getfield 13, 3) := by decide +kernel
theorem d5_4 : decode prog_31_method_6_code 4 = .ok (.ifnull 62, 3) := by decide +kernel
theorem d5_7 : decode prog_31_method_6_code 7 = .ok (.iload_n 1, 1) := by decide +kernel
theorem d5_8 : decode prog_31_method_6_code 8 = .ok (.ifCond .lt 58, 3) := by decide +kernel
theorem d5_11 : decode prog_31_method_6_code 11 = .ok (.iload_n 1, 1) := by decide +kernel
theorem d5_12 : decode prog_31_method_6_code 12 = .ok (.ldc 39, 2) := by decide +kernel
theorem d5_14 : decode prog_31_method_6_code 14 = .ok (.if_icmp .gt 52, 3) := by decide +kernel
theorem d5_17 : decode prog_31_method_6_code 17 = .ok (.aload_n 0, 1) := by decide +kernel
theorem d5_18 : decode prog_31_method_6_code 18 = .ok (.aload_n 0, 1) := by decide +kernel
theorem d5_19 : decode prog_31_method_6_code 19 = .ok (.getfield 7, 3) := by decide +kernel
theorem d5_22 : decode prog_31_method_6_code 22 = .ok (.newarray .char, 2) := by decide +kernel
theorem d5_24 : decode prog_31_method_6_code 24 = .ok (.putfield 23, 3) := by decide +kernel
theorem d5_27 : decode prog_31_method_6_code 27 = .ok (.iconst 0, 1) := by decide +kernel
theorem d5_28 : decode prog_31_method_6_code 28 = .ok (.istore_n 2, 1) := by decide +kernel
theorem d5_29 : decode prog_31_method_6_code 29 = .ok (.iload_n 2, 1) := by decide +kernel
theorem d5_30 : decode prog_31_method_6_code 30 = .ok (.aload_n 0, 1) := by decide +kernel
theorem d5_31 : decode prog_31_method_6_code 31 = .ok (.getfield 7, 3) := by decide +kernel
theorem d5_34 : decode prog_31_method_6_code 34 = .ok (.if_icmp .ge 26, 3) := by decide +kernel
theorem d5_37 : decode prog_31_method_6_code 37 = .ok (.aload_n 0, 1) := by decide +kernel
theorem d5_38 : decode prog_31_method_6_code 38 = .ok (.getfield 23, 3) := by decide +kernel
theorem d5_41 : decode prog_31_method_6_code 41 = .ok (.iload_n 2, 1) := by decide +kernel
theorem d5_42 : decode prog_31_method_6_code 42 = .ok (.aload_n 0, 1) := by decide +kernel
theorem d5_43 : decode prog_31_method_6_code 43 = .ok (.getfield 13, 3) := by decide +kernel
theorem d5_46 : decode prog_31_method_6_code 46 = .ok (.iload_n 2, 1) := by decide +kernel
theorem d5_47 : decode prog_31_method_6_code 47 = .ok (.baload, 1) := by decide +kernel
theorem d5_48 : decode prog_31_method_6_code 48 = .ok (.sipush 255, 3) := by decide +kernel
theorem d5_51 : decode prog_31_method_6_code 51 = .ok (.iand, 1) := by decide +kernel
theorem d5_52 : decode prog_31_method_6_code 52 = .ok (.i2c, 1) := by decide +kernel
theorem d5_53 : decode prog_31_method_6_code 53 = .ok (.castore, 1) := by decide +kernel
theorem d5_54 : decode prog_31_method_6_code 54 = .ok (.iinc 2 1, 3) := by decide +kernel
theorem d5_57 : decode prog_31_method_6_code 57 = .ok (.goto (-28), 3) := by decide +kernel
theorem d5_60 : decode prog_31_method_6_code 60 = .ok (.aload_n 0, 1) := by decide +kernel
theorem d5_61 : decode prog_31_method_6_code 61 = .ok (.aconst_null, 1) := by decide +kernel
theorem d5_62 : decode prog_31_method_6_code 62 = .ok (.putfield 13, 3) := by decide +kernel
theorem d5_65 : decode prog_31_method_6_code 65 = .ok (.return_, 1) := by decide +kernel
theorem d5_66 : decode prog_31_method_6_code 66 = .ok (.aload_n 0, 1) := by decide +kernel
theorem d5_67 : decode prog_31_method_6_code 67 = .ok (.aload_n 0, 1) := by decide +kernel
theorem d5_68 : decode prog_31_method_6_code 68 = .ok (.getfield 7, 3) := by decide +kernel
theorem d5_71 : decode prog_31_method_6_code 71 = .ok (.newarray .int, 2) := by decide +kernel
theorem d5_73 : decode prog_31_method_6_code 73 = .ok (.putfield 30, 3) := by decide +kernel
theorem d5_76 : decode prog_31_method_6_code 76 = .ok (.iconst 0, 1) := by decide +kernel
theorem d5_77 : decode prog_31_method_6_code 77 = .ok (.istore_n 2, 1) := by decide +kernel
theorem d5_78 : decode prog_31_method_6_code 78 = .ok (.iload_n 2, 1) := by decide +kernel
theorem d5_79 : decode prog_31_method_6_code 79 = .ok (.aload_n 0, 1) := by decide +kernel
theorem d5_80 : decode prog_31_method_6_code 80 = .ok (.getfield 7, 3) := by decide +kernel
theorem d5_83 : decode prog_31_method_6_code 83 = .ok (.if_icmp .ge 41, 3) := by decide +kernel
theorem d5_86 : decode prog_31_method_6_code 86 = .ok (.aload_n 0, 1) := by decide +kernel
theorem d5_87 : decode prog_31_method_6_code 87 = .ok (.getfield 30, 3) := by decide +kernel
theorem d5_90 : decode prog_31_method_6_code 90 = .ok (.iload_n 2, 1) := by decide +kernel
theorem d5_91 : decode prog_31_method_6_code 91 = .ok (.aload_n 0, 1) := by decide +kernel
theorem d5_92 : decode prog_31_method_6_code 92 = .ok (.getfield 13, 3) := by decide +kernel
theorem d5_95 : decode prog_31_method_6_code 95 = .ok (.ifnull 16, 3) := by decide +kernel
theorem d5_98 : decode prog_31_method_6_code 98 = .ok (.aload_n 0, 1) := by decide +kernel
theorem d5_99 : decode prog_31_method_6_code 99 = .ok (.getfield 13, 3) := by decide +kernel
theorem d5_102 : decode prog_31_method_6_code 102 = .ok (.iload_n 2, 1) := by decide +kernel
theorem d5_103 : decode prog_31_method_6_code 103 = .ok (.baload, 1) := by decide +kernel
theorem d5_104 : decode prog_31_method_6_code 104 = .ok (.sipush 255, 3) := by decide +kernel
theorem d5_107 : decode prog_31_method_6_code 107 = .ok (.iand, 1) := by decide +kernel
theorem d5_108 : decode prog_31_method_6_code 108 = .ok (.goto 9, 3) := by decide +kernel
theorem d5_111 : decode prog_31_method_6_code 111 = .ok (.aload_n 0, 1) := by decide +kernel
theorem d5_112 : decode prog_31_method_6_code 112 = .ok (.getfield 23, 3) := by decide +kernel
theorem d5_115 : decode prog_31_method_6_code 115 = .ok (.iload_n 2, 1) := by decide +kernel
theorem d5_116 : decode prog_31_method_6_code 116 = .ok (.caload, 1) := by decide +kernel
theorem d5_117 : decode prog_31_method_6_code 117 = .ok (.iastore, 1) := by decide +kernel
theorem d5_118 : decode prog_31_method_6_code 118 = .ok (.iinc 2 1, 3) := by decide +kernel
theorem d5_121 : decode prog_31_method_6_code 121 = .ok (.goto (-43), 3) := by decide +kernel
theorem d5_124 : decode prog_31_method_6_code 124 = .ok (.aload_n 0, 1) := by decide +kernel
theorem d5_125 : decode prog_31_method_6_code 125 = .ok (.aconst_null, 1) := by decide +kernel
theorem d5_126 : decode prog_31_method_6_code 126 = .ok (.putfield 13, 3) := by decide +kernel
theorem d5_129 : decode prog_31_method_6_code 129 = .ok (.aload_n 0, 1) := by decide +kernel
theorem d5_130 : decode prog_31_method_6_code 130 = .ok (.aconst_null, 1) := by decide +kernel
theorem d5_131 : decode prog_31_method_6_code 131 = .ok (.putfield 23, 3) := by decide +kernel
theorem d5_134 : decode prog_31_method_6_code 134 = .ok (.return_, 1) := by decide +kernel
theorem pn_0 : plainName "com/example/joinery/joinery/NarrowInts" = true := by first | (simp [plainName, overriddenIn]; done) | decide +kernel
theorem pn_1 : plainName "com/example/joinery/joinery/NarrowIntsGetPinLaw" = true := by first | (simp [plainName, overriddenIn]; done) | decide +kernel
theorem pd_0 : parseMethodDescriptor "(I)V" = some ⟨[.int], none⟩ := by decide +kernel
theorem pd_1 : parseMethodDescriptor "(II)V" = some ⟨[.int, .int], none⟩ := by decide +kernel
theorem pd_2 : parseMethodDescriptor "(I)I" = some ⟨[.int], some .int⟩ := by decide +kernel

def own_nb (x : Int32) : Int32 := x.toInt8.toInt32
def own_byte (x : Int32) : Prop := 0 ≤ x.toInt ∧ x.toInt ≤ 255
def own_char (x : Int32) : Prop := 0 ≤ x.toInt ∧ x.toInt ≤ 65535
def own_put (vals : Nat → Int32) (i : Nat) (v : Int32) : Nat → Int32 := fun q => if q = i then v else vals q
def own_fill (vals : Nat → Int32) (k : Nat) : Nat → Value := fun q => if q < k then (.int (vals q)) else (.int (0 : Int32))
def own_hd (Z : State) (h : Heap) (n0 : Nat) (a t : Addr) : Prop := n0 ≤ a ∧ n0 ≤ t ∧ a ≠ t ∧ Exa Z h a "com/example/joinery/joinery/NarrowInts" ∧ Fld Z h a "com/example/joinery/joinery/NarrowInts" "capacity" "I" (.int (4 : Int32))
def own_B (Z : State) (h : Heap) (n0 : Nat) (a t : Addr) (vals : Nat → Int32) : Prop := own_hd Z h n0 a t ∧ Fld Z h a "com/example/joinery/joinery/NarrowInts" "bytes" "[B" (.ref t) ∧ Fld Z h a "com/example/joinery/joinery/NarrowInts" "chars" "[C" .null ∧ Fld Z h a "com/example/joinery/joinery/NarrowInts" "ints" "[I" .null ∧ ArF Z h t .byte 4 (fun q => (.int (own_nb (vals q)))) ∧ ∀ i, i < 4 → own_byte (vals i)
def own_C (Z : State) (h : Heap) (n0 : Nat) (a t : Addr) (vals : Nat → Int32) : Prop := own_hd Z h n0 a t ∧ Fld Z h a "com/example/joinery/joinery/NarrowInts" "bytes" "[B" .null ∧ Fld Z h a "com/example/joinery/joinery/NarrowInts" "chars" "[C" (.ref t) ∧ Fld Z h a "com/example/joinery/joinery/NarrowInts" "ints" "[I" .null ∧ ArF Z h t .char 4 (fun q => (.int (vals q))) ∧ ∀ i, i < 4 → own_char (vals i)
def own_I (Z : State) (h : Heap) (n0 : Nat) (a t : Addr) (vals : Nat → Int32) : Prop := own_hd Z h n0 a t ∧ Fld Z h a "com/example/joinery/joinery/NarrowInts" "bytes" "[B" .null ∧ Fld Z h a "com/example/joinery/joinery/NarrowInts" "chars" "[C" .null ∧ Fld Z h a "com/example/joinery/joinery/NarrowInts" "ints" "[I" (.ref t) ∧ ArF Z h t .int 4 (fun q => (.int (vals q)))
def own_NI (Z : State) (h : Heap) (n0 : Nat) (a : Addr) (vals : Nat → Int32) : Prop := (∃ t, own_B Z h n0 a t vals) ∨ (∃ t, own_C Z h n0 a t vals) ∨ ∃ t, own_I Z h n0 a t vals
theorem own_i32 : (0 : Int32).toInt = 0 ∧ (1 : Int32).toInt = 1 ∧ (255 : Int32).toInt = 255 ∧ (65535 : Int32).toInt = 65535 := by decide
theorem own_b_all : ∀ k : Fin 256, (own_nb (Int32.ofNat k.val)) &&& (255 : Int32) = Int32.ofNat k.val := by decide +kernel
theorem own_of {x : Int32} (h : 0 ≤ x.toInt) : x = Int32.ofNat x.toInt.toNat := by
  apply Int32.toInt_inj.mp
  have := x.toInt_lt
  rw [Int32.toInt_ofNat_of_lt (by omega)]; omega
theorem own_byte_back {x : Int32} (h : own_byte x) : (own_nb x) &&& (255 : Int32) = x := by
  have h1 := own_of h.1
  have h2 := own_b_all ⟨x.toInt.toNat, by have := h.1; have := h.2; omega⟩
  simp only [← h1] at h2
  exact h2
theorem own_char_same {x : Int32} (h : own_char x) : x.toUInt32.toUInt16.toUInt32.toInt32 = x := by
  have h1 := own_of h.1
  have hn : x.toInt.toNat < 65536 := by have := h.1; have := h.2; omega
  rw [h1]
  generalize x.toInt.toNat = k at hn
  have e1 : (Int32.ofNat k).toUInt32 = UInt32.ofNat k := rfl
  rw [e1]
  have e2 : (UInt32.ofNat k).toUInt16.toUInt32 = UInt32.ofNat k := by
    apply UInt32.toNat_inj.mp
    simp only [UInt16.toNat_toUInt32, UInt32.toNat_toUInt16, UInt32.toNat_ofNat']
    omega
  rw [e2]; rfl
theorem own_char_nar {x : Int32} (h : own_char x) : nar .char (x.toUInt32.toUInt16.toUInt32.toInt32) = x := by
  rw [own_char_same h]; exact own_char_same h
theorem own_byte_char {x : Int32} (h : own_byte x) : own_char x := ⟨h.1, Int.le_trans h.2 (by decide)⟩
theorem own_byte_nar (x : Int32) : nar .byte (x.toInt8.toInt32) = own_nb x := by
  show (x.toInt8.toInt32).toInt8.toInt32 = _
  rw [Int8.toInt8_toInt32]; rfl
theorem own_is_byte {x : Int32} (h1 : ¬ x < (0 : Int32)) (h2 : ¬ (255 : Int32) < x) : own_byte x := by
  obtain ⟨e0, e1, e2, e3⟩ := own_i32
  rw [Int32.lt_iff_toInt_lt] at h1 h2
  unfold own_byte; omega
theorem own_is_char {x : Int32} (h1 : ¬ x < (0 : Int32)) (h2 : ¬ (65535 : Int32) < x) : own_char x := by
  obtain ⟨e0, e1, e2, e3⟩ := own_i32
  rw [Int32.lt_iff_toInt_lt] at h1 h2
  unfold own_char; omega
theorem own_put_all {P : Int32 → Prop} {vals : Nat → Int32} (h : ∀ i, i < 4 → P (vals i)) (i : Nat) {v : Int32} (hv : P v) : ∀ k, k < 4 → P (own_put vals i v k) := fun k hk => by
  unfold own_put; split
  · exact hv
  · exact h k hk
theorem own_fill0 {vals : Nat → Int32} {x : Int32} (h : x = vals 0) : ∀ q, q < 4 → (fun q => if q = 0 then (.int x) else (fun _ => (.int (0 : Int32))) q) q = own_fill vals 1 q := fun q hq => by
  simp only [own_fill]
  by_cases e : q = 0
  · subst e; simp [h]
  · rw [if_neg e, if_neg (by omega)]
theorem own_fillS {vals : Nat → Int32} {x : Int32} (i : Nat) (h : x = vals i) : ∀ q, q < 4 → (fun q => if q = i then (.int x) else own_fill vals i q) q = own_fill vals (i + 1) q := fun q hq => by
  simp only [own_fill]
  by_cases e : q = i
  · subst e; simp [h]
  · rw [if_neg e]
    by_cases z : q < i
    · rw [if_pos z, if_pos (by omega)]
    · rw [if_neg z, if_neg (by omega)]
theorem own_setV {vals : Nat → Int32} {i : Nat} {x v : Int32} (h : x = v) : ∀ q, q < 4 → (fun q => if q = i then (.int x) else (fun q => (.int (vals q))) q) q = (fun q => (.int (own_put vals i v q) : Value)) q := fun q hq => by
  subst h
  simp only [own_put]
  split <;> rfl
theorem own_setB {vals : Nat → Int32} {i : Nat} {x v : Int32} (h : x = own_nb v) : ∀ q, q < 4 → (fun q => if q = i then (.int x) else (fun q => (.int (own_nb (vals q)))) q) q = (fun q => (.int (own_nb (own_put vals i v q)) : Value)) q := fun q hq => by
  subst h
  simp only [own_put]
  split <;> rfl
theorem own_fill4 {vals : Nat → Int32} : ∀ q, q < 4 → own_fill vals 4 q = (fun q => (.int (vals q))) q := fun q hq => by
  simp only [own_fill]; rw [if_pos hq]
theorem ef_rm_wBC (m : MethodId) (x0 : Addr) (x1 : Int32) : entryFrame m #[(.ref x0), (.int x1)] 3 = mkF m 0 #[.val (.ref x0), .val (.int x1), .unset] [] := by first | (simp [entryFrame, mkF, argsToLocals, Value.category]; done) | rfl
def Q_rm_wBC (Z : State) (a1 : Addr) (v1 : Int32) (t1 : Addr) (vals : Nat → Int32) (h0 : Heap) (n0 : Nat) (v : Option Value) (h : Heap) (L : List Loc) : Prop := v = none ∧ Fr n0 L ∧ n0 ≤ h.size ∧ ∃ t, own_C Z h n0 a1 t vals
set_option maxRecDepth 65536 in
set_option maxHeartbeats 40000000 in
theorem rm_wBC (l : Launch) (Z : State) (a0 : Array Value) (hw : ∀ d ∈ tables_1, d.before a0 Z = true) (ws : List Jvm.Cond) (a1 : Addr) (v1 : Int32) (t1 : Addr) (vals : Nat → Int32) (h0 : Heap) (n0 : Nat) (Z0 : n0 ≤ h0.size) (F1 : Exa Z h0 a1 "com/example/joinery/joinery/NarrowInts") (F2 : Fld Z h0 a1 "com/example/joinery/joinery/NarrowInts" "capacity" "I" (.int (4 : Int32))) (F3 : Fld Z h0 a1 "com/example/joinery/joinery/NarrowInts" "bytes" "[B" (.ref t1)) (F4 : Fld Z h0 a1 "com/example/joinery/joinery/NarrowInts" "chars" "[C" .null) (F5 : Fld Z h0 a1 "com/example/joinery/joinery/NarrowInts" "ints" "[I" .null) (F6 : ArF Z h0 t1 .byte 4 (fun q => (.int (own_nb (vals q))))) (g_a1 : n0 ≤ a1) (g_t1 : n0 ≤ t1) (ne_a1_t1 : a1 ≠ t1) (hrg : ∀ i, i < 4 → own_byte (vals i)) (hv0 : ¬ v1 < (0 : Int32)) (hv1 : ¬ (65535 : Int32) < v1) :
    MetFree l (⟨"com/example/joinery/joinery/NarrowInts", "widenFor", "(I)V"⟩ : MethodName) (head1 (Jvm.Cond.code (⟨"com/example/joinery/joinery/NarrowInts", "widenFor", "(I)V"⟩ : MethodName) prog_31_method_6_code 3 none :: ws) ({ frames := 0, cells := 1, slots := 4, locals := 0 } : Room)) (fun a U => a = #[(.ref a1), (.int v1)] ∧ Z.Warmed39 U.vm ∧ U.heap = h0) (fun _ _ _ _ _ => True) (fun _ U o U' => ∃ v L, o = .returned v ∧ Q_rm_wBC Z a1 v1 t1 vals h0 n0 v U'.heap L ∧ FrameEnd U o U' L ({ frames := 0, cells := 1, slots := 4, locals := 0 } : Room).cells ({ frames := 0, cells := 1, slots := 4, locals := 0 } : Room).slots) := by
  refine MetFree.of_bodySF (plainFor_of_name pn_0) hisR ?_
  intro p e s m args below meth c s₁ Bd hml0 hP hK
  obtain ⟨rfl, hZ, hh⟩ := hP
  have hx := Bd.exec
  have hby := Bd.bytes
  have hml : c.maxLocals = 3 := hml0
  have hown : s.vm.findClass "com/example/joinery/joinery/NarrowInts" = some m.cls := findClass_of_methodNamed Bd.named
  have hnm := (name_of_methodNamed Bd.named Bd.method).1
  have X0 : Stand p l e ({ frames := 0, cells := 1, slots := 4, locals := 0 } : Room) s m #[(.ref a1), (.int v1)] below meth c s₁ [] 0 0 := Stand.of_body Bd
  have e0 : s₁.heap = h0 := by rw [← hh, Bd.state]; rfl
  have N0 := Fr.nil n0
  have pre0 : ∀ t, Steps p.tables e below (s₁.setTop (mkF m 0 #[.val (.ref a1), .val (.int v1), .unset] [])) t → Steps p.tables e below (s₁.setTop (entryFrame m #[(.ref a1), (.int v1)] 3)) t := fun t k => castTop (ef_rm_wBC m a1 v1) k
  have S7 : ∀ t, Steps p.tables e below (s₁.setTop (mkF m 1 #[.val (.ref a1), .val (.int v1), .unset] [(.ref a1)])) t → Steps p.tables e below (s₁.setTop (mkF m 0 #[.val (.ref a1), .val (.int v1), .unset] [])) t := by
    intro t kt
    show Steps p.tables e below (s₁.setTop (mkF m 0 #[.val (.ref a1), .val (.int v1), .unset] [])) _
    refine XS.aloadN X0.here hx rfl (hb hby d5_0) rfl rfl ?_
    exact kt
  obtain ⟨T8, X8, e8, st8⟩ := getF X0 hx hZ hown (host := "") (Or.inl (hw _ (List.mem_of_getElem? (i := 12) rfl))) Via.refl e0 F3 (g := (mkF m 1 #[.val (.ref a1), .val (.int v1), .unset] [(.ref a1)])) rfl rfl (hb hby d5_1)
  have S9 : ∀ t, Steps p.tables e below (T8.setTop (mkF m 19 #[.val (.ref a1), .val (.int v1), .unset] [(.ref a1), (.ref a1)])) t → Steps p.tables e below (T8.setTop (mkF m 4 #[.val (.ref a1), .val (.int v1), .unset] [(.ref t1)])) t := by
    intro t kt
    show Steps p.tables e below (T8.setTop (mkF m 4 #[.val (.ref a1), .val (.int v1), .unset] [(.ref t1)])) _
    refine XS.ifnullNo X8.here hx rfl (hb hby d5_4) rfl ?_
    show Steps p.tables e below (T8.setTop (mkF m 7 #[.val (.ref a1), .val (.int v1), .unset] [])) _
    refine XS.iloadN X8.here hx rfl (hb hby d5_7) rfl ?_
    show Steps p.tables e below (T8.setTop (mkF m 8 #[.val (.ref a1), .val (.int v1), .unset] [(.int v1)])) _
    refine XS.ifNo X8.here hx rfl (hb hby d5_8) rfl ((if0 _ _).trans (flt hv0).1) ?_
    show Steps p.tables e below (T8.setTop (mkF m 11 #[.val (.ref a1), .val (.int v1), .unset] [])) _
    refine XS.iloadN X8.here hx rfl (hb hby d5_11) rfl ?_
    show Steps p.tables e below (T8.setTop (mkF m 12 #[.val (.ref a1), .val (.int v1), .unset] [(.int v1)])) _
    refine X8.ldcInt hx hown (mvT hZ (hw _ (List.mem_of_getElem? (i := 32) rfl))) (g := (mkF m 12 #[.val (.ref a1), .val (.int v1), .unset] [(.int v1)])) rfl (hb hby d5_12) _ ?_
    show Steps p.tables e below (T8.setTop (mkF m 14 #[.val (.ref a1), .val (.int v1), .unset] [(.int (65535 : Int32)), (.int v1)])) _
    refine XS.icmpNo X8.here hx rfl (hb hby d5_14) rfl (flt hv1).2.2.1 ?_
    show Steps p.tables e below (T8.setTop (mkF m 17 #[.val (.ref a1), .val (.int v1), .unset] [])) _
    refine XS.aloadN X8.here hx rfl (hb hby d5_17) rfl rfl ?_
    show Steps p.tables e below (T8.setTop (mkF m 18 #[.val (.ref a1), .val (.int v1), .unset] [(.ref a1)])) _
    refine XS.aloadN X8.here hx rfl (hb hby d5_18) rfl rfl ?_
    exact kt
  obtain ⟨T10, X10, e10, st10⟩ := getF X8 hx hZ hown (host := "") (Or.inl (hw _ (List.mem_of_getElem? (i := 9) rfl))) Via.refl e8 F2 (g := (mkF m 19 #[.val (.ref a1), .val (.int v1), .unset] [(.ref a1), (.ref a1)])) rfl rfl (hb hby d5_19)
  obtain ⟨T11, h11, k11, X11, e11, E11, A11, st11⟩ := newP X10 hx hZ (hw _ (List.mem_of_getElem? (i := 35) rfl)) e10 (g := (mkF m 22 #[.val (.ref a1), .val (.int v1), .unset] [(.int (4 : Int32)), (.ref a1)])) rfl (hb hby d5_22) rfl (by decide) (cap := 4) (by decide) (by decide) (by decide) (by decide)
  obtain ⟨b11, g11⟩ : ∃ z, z = h0.size := ⟨_, rfl⟩
  rw [← g11] at A11 st11
  have g_b11 : n0 ≤ b11 := Nat.le_trans Z0 (Nat.le_of_eq g11.symm)
  have K12 := (Keep.refl h0 [a1])
  have sz_b11 : h0.size ≤ b11 := Nat.le_trans K12.1 (Nat.le_of_eq g11.symm)
  have ne_a1_b11 : a1 ≠ b11 := Nat.ne_of_lt (Nat.lt_of_lt_of_le F1.lt (Nat.le_of_eq g11.symm))
  have ne_t1_b11 : t1 ≠ b11 := Nat.ne_of_lt (Nat.lt_of_lt_of_le F6.lt (Nat.le_of_eq g11.symm))
  have z13 : n0 ≤ h11.size := Nat.le_trans Z0 E11.1
  have V11 : ArF Z h11 b11 .char 4 (fun _ => (.int (0 : Int32))) := ArF.new A11 (by decide) rfl
  have f14 := (F4.ext E11)
  have f15 := (F1.ext E11)
  obtain ⟨T16, h16, X16, e16, W16, st16⟩ := putF X11 hx hZ hown (host := "") (Or.inl (hw _ (List.mem_of_getElem? (i := 24) rfl))) Via.refl e11 f14 f15 (Or.inl (hw _ (List.mem_of_getElem? (i := 25) rfl))) (hw _ (List.mem_of_getElem? (i := 1) rfl)) (ty := (.array .char)) (by decide) rfl rfl (g := (mkF m 24 #[.val (.ref a1), .val (.int v1), .unset] [(.ref b11), (.ref a1)])) rfl rfl (hb hby d5_24)
  have z17 : n0 ≤ h16.size := Nat.le_trans z13 (Keep.of_wr W16).1
  have N18 := Fr.snoc X16 N0 g_a1
  have Fw16 := f14.same W16
  have S19 : ∀ t, Steps p.tables e below (T16.setTop (mkF m 31 #[.val (.ref a1), .val (.int v1), .val (.int (0 : Int32))] [(.ref a1), (.int (0 : Int32))])) t → Steps p.tables e below (T16.setTop (mkF m 27 #[.val (.ref a1), .val (.int v1), .unset] [])) t := by
    intro t kt
    show Steps p.tables e below (T16.setTop (mkF m 27 #[.val (.ref a1), .val (.int v1), .unset] [])) _
    refine XS.iconst X16.here hx rfl (hb hby d5_27) ?_
    show Steps p.tables e below (T16.setTop (mkF m 28 #[.val (.ref a1), .val (.int v1), .unset] [(.int (0 : Int32))])) _
    refine XS.istoreN X16.here hx rfl (hb hby d5_28) rfl (l' := #[.val (.ref a1), .val (.int v1), .val (.int (0 : Int32))]) rfl ?_
    show Steps p.tables e below (T16.setTop (mkF m 29 #[.val (.ref a1), .val (.int v1), .val (.int (0 : Int32))] [])) _
    refine XS.iloadN X16.here hx rfl (hb hby d5_29) rfl ?_
    show Steps p.tables e below (T16.setTop (mkF m 30 #[.val (.ref a1), .val (.int v1), .val (.int (0 : Int32))] [(.int (0 : Int32))])) _
    refine XS.aloadN X16.here hx rfl (hb hby d5_30) rfl rfl ?_
    exact kt
  have f20 := ((F2.ext E11).other W16 (Or.inr (slot_ne (Or.inl (hw _ (List.mem_of_getElem? (i := 10) rfl))) (Or.inl (hw _ (List.mem_of_getElem? (i := 25) rfl))) (by decide) (t := .int) (t' := (.array .char)) (by decide) (by decide))))
  obtain ⟨T21, X21, e21, st21⟩ := getF X16 hx hZ hown (host := "") (Or.inl (hw _ (List.mem_of_getElem? (i := 9) rfl))) Via.refl e16 f20 (g := (mkF m 31 #[.val (.ref a1), .val (.int v1), .val (.int (0 : Int32))] [(.ref a1), (.int (0 : Int32))])) rfl rfl (hb hby d5_31)
  have S22 : ∀ t, Steps p.tables e below (T21.setTop (mkF m 38 #[.val (.ref a1), .val (.int v1), .val (.int (0 : Int32))] [(.ref a1)])) t → Steps p.tables e below (T21.setTop (mkF m 34 #[.val (.ref a1), .val (.int v1), .val (.int (0 : Int32))] [(.int (4 : Int32)), (.int (0 : Int32))])) t := by
    intro t kt
    show Steps p.tables e below (T21.setTop (mkF m 34 #[.val (.ref a1), .val (.int v1), .val (.int (0 : Int32))] [(.int (4 : Int32)), (.int (0 : Int32))])) _
    refine XS.icmpNo X21.here hx rfl (hb hby d5_34) rfl (tlt (by decide)).2.1 ?_
    show Steps p.tables e below (T21.setTop (mkF m 37 #[.val (.ref a1), .val (.int v1), .val (.int (0 : Int32))] [])) _
    refine XS.aloadN X21.here hx rfl (hb hby d5_37) rfl rfl ?_
    exact kt
  obtain ⟨T23, X23, e23, st23⟩ := getF X21 hx hZ hown (host := "") (Or.inl (hw _ (List.mem_of_getElem? (i := 24) rfl))) Via.refl e21 Fw16 (g := (mkF m 38 #[.val (.ref a1), .val (.int v1), .val (.int (0 : Int32))] [(.ref a1)])) rfl rfl (hb hby d5_38)
  have S24 : ∀ t, Steps p.tables e below (T23.setTop (mkF m 43 #[.val (.ref a1), .val (.int v1), .val (.int (0 : Int32))] [(.ref a1), (.int (0 : Int32)), (.ref b11)])) t → Steps p.tables e below (T23.setTop (mkF m 41 #[.val (.ref a1), .val (.int v1), .val (.int (0 : Int32))] [(.ref b11)])) t := by
    intro t kt
    show Steps p.tables e below (T23.setTop (mkF m 41 #[.val (.ref a1), .val (.int v1), .val (.int (0 : Int32))] [(.ref b11)])) _
    refine XS.iloadN X23.here hx rfl (hb hby d5_41) rfl ?_
    show Steps p.tables e below (T23.setTop (mkF m 42 #[.val (.ref a1), .val (.int v1), .val (.int (0 : Int32))] [(.int (0 : Int32)), (.ref b11)])) _
    refine XS.aloadN X23.here hx rfl (hb hby d5_42) rfl rfl ?_
    exact kt
  have f25 := ((F3.ext E11).other W16 (Or.inr (slot_ne (Or.inl (hw _ (List.mem_of_getElem? (i := 13) rfl))) (Or.inl (hw _ (List.mem_of_getElem? (i := 25) rfl))) (by decide) (t := (.array .byte)) (t' := (.array .char)) (by decide) (by decide))))
  obtain ⟨T26, X26, e26, st26⟩ := getF X23 hx hZ hown (host := "") (Or.inl (hw _ (List.mem_of_getElem? (i := 12) rfl))) Via.refl e23 f25 (g := (mkF m 43 #[.val (.ref a1), .val (.int v1), .val (.int (0 : Int32))] [(.ref a1), (.int (0 : Int32)), (.ref b11)])) rfl rfl (hb hby d5_43)
  have S27 : ∀ t, Steps p.tables e below (T26.setTop (mkF m 47 #[.val (.ref a1), .val (.int v1), .val (.int (0 : Int32))] [(.int (0 : Int32)), (.ref t1), (.int (0 : Int32)), (.ref b11)])) t → Steps p.tables e below (T26.setTop (mkF m 46 #[.val (.ref a1), .val (.int v1), .val (.int (0 : Int32))] [(.ref t1), (.int (0 : Int32)), (.ref b11)])) t := by
    intro t kt
    show Steps p.tables e below (T26.setTop (mkF m 46 #[.val (.ref a1), .val (.int v1), .val (.int (0 : Int32))] [(.ref t1), (.int (0 : Int32)), (.ref b11)])) _
    refine XS.iloadN X26.here hx rfl (hb hby d5_46) rfl ?_
    exact kt
  have f28 := ((F6.ext E11).other W16 (Ne.symm ne_a1_t1))
  have S29 : ∀ t, Steps p.tables e below (T26.setTop (mkF m 53 #[.val (.ref a1), .val (.int v1), .val (.int (0 : Int32))] [(.int (((own_nb (vals 0)) &&& (255 : Int32)).toUInt32.toUInt16.toUInt32.toInt32)), (.int (0 : Int32)), (.ref b11)])) t → Steps p.tables e below (T26.setTop (mkF m 47 #[.val (.ref a1), .val (.int v1), .val (.int (0 : Int32))] [(.int (0 : Int32)), (.ref t1), (.int (0 : Int32)), (.ref b11)])) t := by
    intro t kt
    show Steps p.tables e below (T26.setTop (mkF m 47 #[.val (.ref a1), .val (.int v1), .val (.int (0 : Int32))] [(.int (0 : Int32)), (.ref t1), (.int (0 : Int32)), (.ref b11)])) _
    refine ArF.ldB X26 hx hZ e26 f28 (i := 0) (by decide) (by decide) (v := (own_nb (vals 0))) rfl (g := (mkF m 47 #[.val (.ref a1), .val (.int v1), .val (.int (0 : Int32))] [(.int (0 : Int32)), (.ref t1), (.int (0 : Int32)), (.ref b11)])) rfl rfl (hb hby d5_47) _ ?_
    show Steps p.tables e below (T26.setTop (mkF m 48 #[.val (.ref a1), .val (.int v1), .val (.int (0 : Int32))] [(.int (own_nb (vals 0))), (.int (0 : Int32)), (.ref b11)])) _
    refine XS.sipush X26.here hx rfl (hb hby d5_48) ?_
    show Steps p.tables e below (T26.setTop (mkF m 51 #[.val (.ref a1), .val (.int v1), .val (.int (0 : Int32))] [(.int (255 : Int32)), (.int (own_nb (vals 0))), (.int (0 : Int32)), (.ref b11)])) _
    refine XS.iand X26.here hx rfl (hb hby d5_51) rfl ?_
    show Steps p.tables e below (T26.setTop (mkF m 52 #[.val (.ref a1), .val (.int v1), .val (.int (0 : Int32))] [(.int ((own_nb (vals 0)) &&& (255 : Int32))), (.int (0 : Int32)), (.ref b11)])) _
    refine XS.i2c X26.here hx rfl (hb hby d5_52) rfl ?_
    exact kt
  have f30 := (V11.other W16 (Ne.symm ne_a1_b11))
  obtain ⟨T31, h31, X31, e31, W31, V31, st31⟩ := ArF.stC X26 hx hZ e26 f30 (i := 0) (by decide) (by decide) (g := (mkF m 53 #[.val (.ref a1), .val (.int v1), .val (.int (0 : Int32))] [(.int (((own_nb (vals 0)) &&& (255 : Int32)).toUInt32.toUInt16.toUInt32.toInt32)), (.int (0 : Int32)), (.ref b11)])) rfl rfl (hb hby d5_53)
  have z32 : n0 ≤ h31.size := Nat.le_trans z17 (Keep.of_wr W31).1
  have N33 := Fr.snoc X31 N18 g_b11
  have V31' := V31.congr (f' := (own_fill vals 1)) (own_fill0 (vals := vals) ((congrArg (fun z : Int32 => nar .char (z.toUInt32.toUInt16.toUInt32.toInt32)) (own_byte_back (hrg 0 (by decide)))).trans (own_char_nar (own_byte_char (hrg 0 (by decide))))))
  have S34 : ∀ t, Steps p.tables e below (T31.setTop (mkF m 31 #[.val (.ref a1), .val (.int v1), .val (.int (1 : Int32))] [(.ref a1), (.int (1 : Int32))])) t → Steps p.tables e below (T31.setTop (mkF m 54 #[.val (.ref a1), .val (.int v1), .val (.int (0 : Int32))] [])) t := by
    intro t kt
    show Steps p.tables e below (T31.setTop (mkF m 54 #[.val (.ref a1), .val (.int v1), .val (.int (0 : Int32))] [])) _
    refine XS.iinc X31.here hx rfl (hb hby d5_54) rfl (l' := #[.val (.ref a1), .val (.int v1), .val (.int (1 : Int32))]) rfl ?_
    show Steps p.tables e below (T31.setTop (mkF m 57 #[.val (.ref a1), .val (.int v1), .val (.int (1 : Int32))] [])) _
    refine XS.goto X31.here hx rfl (pc0 := 57) (pc' := 29) rfl (hb hby d5_57) (by decide) (by decide) ?_
    show Steps p.tables e below (T31.setTop (mkF m 29 #[.val (.ref a1), .val (.int v1), .val (.int (1 : Int32))] [])) _
    refine XS.iloadN X31.here hx rfl (hb hby d5_29) rfl ?_
    show Steps p.tables e below (T31.setTop (mkF m 30 #[.val (.ref a1), .val (.int v1), .val (.int (1 : Int32))] [(.int (1 : Int32))])) _
    refine XS.aloadN X31.here hx rfl (hb hby d5_30) rfl rfl ?_
    exact kt
  have f35 := (f20.other W31 (Or.inl ne_a1_b11))
  obtain ⟨T36, X36, e36, st36⟩ := getF X31 hx hZ hown (host := "") (Or.inl (hw _ (List.mem_of_getElem? (i := 9) rfl))) Via.refl e31 f35 (g := (mkF m 31 #[.val (.ref a1), .val (.int v1), .val (.int (1 : Int32))] [(.ref a1), (.int (1 : Int32))])) rfl rfl (hb hby d5_31)
  have S37 : ∀ t, Steps p.tables e below (T36.setTop (mkF m 38 #[.val (.ref a1), .val (.int v1), .val (.int (1 : Int32))] [(.ref a1)])) t → Steps p.tables e below (T36.setTop (mkF m 34 #[.val (.ref a1), .val (.int v1), .val (.int (1 : Int32))] [(.int (4 : Int32)), (.int (1 : Int32))])) t := by
    intro t kt
    show Steps p.tables e below (T36.setTop (mkF m 34 #[.val (.ref a1), .val (.int v1), .val (.int (1 : Int32))] [(.int (4 : Int32)), (.int (1 : Int32))])) _
    refine XS.icmpNo X36.here hx rfl (hb hby d5_34) rfl (tlt (by decide)).2.1 ?_
    show Steps p.tables e below (T36.setTop (mkF m 37 #[.val (.ref a1), .val (.int v1), .val (.int (1 : Int32))] [])) _
    refine XS.aloadN X36.here hx rfl (hb hby d5_37) rfl rfl ?_
    exact kt
  have f38 := (Fw16.other W31 (Or.inl ne_a1_b11))
  obtain ⟨T39, X39, e39, st39⟩ := getF X36 hx hZ hown (host := "") (Or.inl (hw _ (List.mem_of_getElem? (i := 24) rfl))) Via.refl e36 f38 (g := (mkF m 38 #[.val (.ref a1), .val (.int v1), .val (.int (1 : Int32))] [(.ref a1)])) rfl rfl (hb hby d5_38)
  have S40 : ∀ t, Steps p.tables e below (T39.setTop (mkF m 43 #[.val (.ref a1), .val (.int v1), .val (.int (1 : Int32))] [(.ref a1), (.int (1 : Int32)), (.ref b11)])) t → Steps p.tables e below (T39.setTop (mkF m 41 #[.val (.ref a1), .val (.int v1), .val (.int (1 : Int32))] [(.ref b11)])) t := by
    intro t kt
    show Steps p.tables e below (T39.setTop (mkF m 41 #[.val (.ref a1), .val (.int v1), .val (.int (1 : Int32))] [(.ref b11)])) _
    refine XS.iloadN X39.here hx rfl (hb hby d5_41) rfl ?_
    show Steps p.tables e below (T39.setTop (mkF m 42 #[.val (.ref a1), .val (.int v1), .val (.int (1 : Int32))] [(.int (1 : Int32)), (.ref b11)])) _
    refine XS.aloadN X39.here hx rfl (hb hby d5_42) rfl rfl ?_
    exact kt
  have f41 := (f25.other W31 (Or.inl ne_a1_b11))
  obtain ⟨T42, X42, e42, st42⟩ := getF X39 hx hZ hown (host := "") (Or.inl (hw _ (List.mem_of_getElem? (i := 12) rfl))) Via.refl e39 f41 (g := (mkF m 43 #[.val (.ref a1), .val (.int v1), .val (.int (1 : Int32))] [(.ref a1), (.int (1 : Int32)), (.ref b11)])) rfl rfl (hb hby d5_43)
  have S43 : ∀ t, Steps p.tables e below (T42.setTop (mkF m 47 #[.val (.ref a1), .val (.int v1), .val (.int (1 : Int32))] [(.int (1 : Int32)), (.ref t1), (.int (1 : Int32)), (.ref b11)])) t → Steps p.tables e below (T42.setTop (mkF m 46 #[.val (.ref a1), .val (.int v1), .val (.int (1 : Int32))] [(.ref t1), (.int (1 : Int32)), (.ref b11)])) t := by
    intro t kt
    show Steps p.tables e below (T42.setTop (mkF m 46 #[.val (.ref a1), .val (.int v1), .val (.int (1 : Int32))] [(.ref t1), (.int (1 : Int32)), (.ref b11)])) _
    refine XS.iloadN X42.here hx rfl (hb hby d5_46) rfl ?_
    exact kt
  have f44 := (f28.other W31 ne_t1_b11)
  have S45 : ∀ t, Steps p.tables e below (T42.setTop (mkF m 53 #[.val (.ref a1), .val (.int v1), .val (.int (1 : Int32))] [(.int (((own_nb (vals 1)) &&& (255 : Int32)).toUInt32.toUInt16.toUInt32.toInt32)), (.int (1 : Int32)), (.ref b11)])) t → Steps p.tables e below (T42.setTop (mkF m 47 #[.val (.ref a1), .val (.int v1), .val (.int (1 : Int32))] [(.int (1 : Int32)), (.ref t1), (.int (1 : Int32)), (.ref b11)])) t := by
    intro t kt
    show Steps p.tables e below (T42.setTop (mkF m 47 #[.val (.ref a1), .val (.int v1), .val (.int (1 : Int32))] [(.int (1 : Int32)), (.ref t1), (.int (1 : Int32)), (.ref b11)])) _
    refine ArF.ldB X42 hx hZ e42 f44 (i := 1) (by decide) (by decide) (v := (own_nb (vals 1))) rfl (g := (mkF m 47 #[.val (.ref a1), .val (.int v1), .val (.int (1 : Int32))] [(.int (1 : Int32)), (.ref t1), (.int (1 : Int32)), (.ref b11)])) rfl rfl (hb hby d5_47) _ ?_
    show Steps p.tables e below (T42.setTop (mkF m 48 #[.val (.ref a1), .val (.int v1), .val (.int (1 : Int32))] [(.int (own_nb (vals 1))), (.int (1 : Int32)), (.ref b11)])) _
    refine XS.sipush X42.here hx rfl (hb hby d5_48) ?_
    show Steps p.tables e below (T42.setTop (mkF m 51 #[.val (.ref a1), .val (.int v1), .val (.int (1 : Int32))] [(.int (255 : Int32)), (.int (own_nb (vals 1))), (.int (1 : Int32)), (.ref b11)])) _
    refine XS.iand X42.here hx rfl (hb hby d5_51) rfl ?_
    show Steps p.tables e below (T42.setTop (mkF m 52 #[.val (.ref a1), .val (.int v1), .val (.int (1 : Int32))] [(.int ((own_nb (vals 1)) &&& (255 : Int32))), (.int (1 : Int32)), (.ref b11)])) _
    refine XS.i2c X42.here hx rfl (hb hby d5_52) rfl ?_
    exact kt
  obtain ⟨T46, h46, X46, e46, W46, V46, st46⟩ := ArF.stC X42 hx hZ e42 V31' (i := 1) (by decide) (by decide) (g := (mkF m 53 #[.val (.ref a1), .val (.int v1), .val (.int (1 : Int32))] [(.int (((own_nb (vals 1)) &&& (255 : Int32)).toUInt32.toUInt16.toUInt32.toInt32)), (.int (1 : Int32)), (.ref b11)])) rfl rfl (hb hby d5_53)
  have z47 : n0 ≤ h46.size := Nat.le_trans z32 (Keep.of_wr W46).1
  have N48 := Fr.snoc X46 N33 g_b11
  have V46' := V46.congr (f' := (own_fill vals 2)) (own_fillS (vals := vals) 1 ((congrArg (fun z : Int32 => nar .char (z.toUInt32.toUInt16.toUInt32.toInt32)) (own_byte_back (hrg 1 (by decide)))).trans (own_char_nar (own_byte_char (hrg 1 (by decide))))))
  have S49 : ∀ t, Steps p.tables e below (T46.setTop (mkF m 31 #[.val (.ref a1), .val (.int v1), .val (.int (2 : Int32))] [(.ref a1), (.int (2 : Int32))])) t → Steps p.tables e below (T46.setTop (mkF m 54 #[.val (.ref a1), .val (.int v1), .val (.int (1 : Int32))] [])) t := by
    intro t kt
    show Steps p.tables e below (T46.setTop (mkF m 54 #[.val (.ref a1), .val (.int v1), .val (.int (1 : Int32))] [])) _
    refine XS.iinc X46.here hx rfl (hb hby d5_54) rfl (l' := #[.val (.ref a1), .val (.int v1), .val (.int (2 : Int32))]) rfl ?_
    show Steps p.tables e below (T46.setTop (mkF m 57 #[.val (.ref a1), .val (.int v1), .val (.int (2 : Int32))] [])) _
    refine XS.goto X46.here hx rfl (pc0 := 57) (pc' := 29) rfl (hb hby d5_57) (by decide) (by decide) ?_
    show Steps p.tables e below (T46.setTop (mkF m 29 #[.val (.ref a1), .val (.int v1), .val (.int (2 : Int32))] [])) _
    refine XS.iloadN X46.here hx rfl (hb hby d5_29) rfl ?_
    show Steps p.tables e below (T46.setTop (mkF m 30 #[.val (.ref a1), .val (.int v1), .val (.int (2 : Int32))] [(.int (2 : Int32))])) _
    refine XS.aloadN X46.here hx rfl (hb hby d5_30) rfl rfl ?_
    exact kt
  have f50 := (f35.other W46 (Or.inl ne_a1_b11))
  obtain ⟨T51, X51, e51, st51⟩ := getF X46 hx hZ hown (host := "") (Or.inl (hw _ (List.mem_of_getElem? (i := 9) rfl))) Via.refl e46 f50 (g := (mkF m 31 #[.val (.ref a1), .val (.int v1), .val (.int (2 : Int32))] [(.ref a1), (.int (2 : Int32))])) rfl rfl (hb hby d5_31)
  have S52 : ∀ t, Steps p.tables e below (T51.setTop (mkF m 38 #[.val (.ref a1), .val (.int v1), .val (.int (2 : Int32))] [(.ref a1)])) t → Steps p.tables e below (T51.setTop (mkF m 34 #[.val (.ref a1), .val (.int v1), .val (.int (2 : Int32))] [(.int (4 : Int32)), (.int (2 : Int32))])) t := by
    intro t kt
    show Steps p.tables e below (T51.setTop (mkF m 34 #[.val (.ref a1), .val (.int v1), .val (.int (2 : Int32))] [(.int (4 : Int32)), (.int (2 : Int32))])) _
    refine XS.icmpNo X51.here hx rfl (hb hby d5_34) rfl (tlt (by decide)).2.1 ?_
    show Steps p.tables e below (T51.setTop (mkF m 37 #[.val (.ref a1), .val (.int v1), .val (.int (2 : Int32))] [])) _
    refine XS.aloadN X51.here hx rfl (hb hby d5_37) rfl rfl ?_
    exact kt
  have f53 := (f38.other W46 (Or.inl ne_a1_b11))
  obtain ⟨T54, X54, e54, st54⟩ := getF X51 hx hZ hown (host := "") (Or.inl (hw _ (List.mem_of_getElem? (i := 24) rfl))) Via.refl e51 f53 (g := (mkF m 38 #[.val (.ref a1), .val (.int v1), .val (.int (2 : Int32))] [(.ref a1)])) rfl rfl (hb hby d5_38)
  have S55 : ∀ t, Steps p.tables e below (T54.setTop (mkF m 43 #[.val (.ref a1), .val (.int v1), .val (.int (2 : Int32))] [(.ref a1), (.int (2 : Int32)), (.ref b11)])) t → Steps p.tables e below (T54.setTop (mkF m 41 #[.val (.ref a1), .val (.int v1), .val (.int (2 : Int32))] [(.ref b11)])) t := by
    intro t kt
    show Steps p.tables e below (T54.setTop (mkF m 41 #[.val (.ref a1), .val (.int v1), .val (.int (2 : Int32))] [(.ref b11)])) _
    refine XS.iloadN X54.here hx rfl (hb hby d5_41) rfl ?_
    show Steps p.tables e below (T54.setTop (mkF m 42 #[.val (.ref a1), .val (.int v1), .val (.int (2 : Int32))] [(.int (2 : Int32)), (.ref b11)])) _
    refine XS.aloadN X54.here hx rfl (hb hby d5_42) rfl rfl ?_
    exact kt
  have f56 := (f41.other W46 (Or.inl ne_a1_b11))
  obtain ⟨T57, X57, e57, st57⟩ := getF X54 hx hZ hown (host := "") (Or.inl (hw _ (List.mem_of_getElem? (i := 12) rfl))) Via.refl e54 f56 (g := (mkF m 43 #[.val (.ref a1), .val (.int v1), .val (.int (2 : Int32))] [(.ref a1), (.int (2 : Int32)), (.ref b11)])) rfl rfl (hb hby d5_43)
  have S58 : ∀ t, Steps p.tables e below (T57.setTop (mkF m 47 #[.val (.ref a1), .val (.int v1), .val (.int (2 : Int32))] [(.int (2 : Int32)), (.ref t1), (.int (2 : Int32)), (.ref b11)])) t → Steps p.tables e below (T57.setTop (mkF m 46 #[.val (.ref a1), .val (.int v1), .val (.int (2 : Int32))] [(.ref t1), (.int (2 : Int32)), (.ref b11)])) t := by
    intro t kt
    show Steps p.tables e below (T57.setTop (mkF m 46 #[.val (.ref a1), .val (.int v1), .val (.int (2 : Int32))] [(.ref t1), (.int (2 : Int32)), (.ref b11)])) _
    refine XS.iloadN X57.here hx rfl (hb hby d5_46) rfl ?_
    exact kt
  have f59 := (f44.other W46 ne_t1_b11)
  have S60 : ∀ t, Steps p.tables e below (T57.setTop (mkF m 53 #[.val (.ref a1), .val (.int v1), .val (.int (2 : Int32))] [(.int (((own_nb (vals 2)) &&& (255 : Int32)).toUInt32.toUInt16.toUInt32.toInt32)), (.int (2 : Int32)), (.ref b11)])) t → Steps p.tables e below (T57.setTop (mkF m 47 #[.val (.ref a1), .val (.int v1), .val (.int (2 : Int32))] [(.int (2 : Int32)), (.ref t1), (.int (2 : Int32)), (.ref b11)])) t := by
    intro t kt
    show Steps p.tables e below (T57.setTop (mkF m 47 #[.val (.ref a1), .val (.int v1), .val (.int (2 : Int32))] [(.int (2 : Int32)), (.ref t1), (.int (2 : Int32)), (.ref b11)])) _
    refine ArF.ldB X57 hx hZ e57 f59 (i := 2) (by decide) (by decide) (v := (own_nb (vals 2))) rfl (g := (mkF m 47 #[.val (.ref a1), .val (.int v1), .val (.int (2 : Int32))] [(.int (2 : Int32)), (.ref t1), (.int (2 : Int32)), (.ref b11)])) rfl rfl (hb hby d5_47) _ ?_
    show Steps p.tables e below (T57.setTop (mkF m 48 #[.val (.ref a1), .val (.int v1), .val (.int (2 : Int32))] [(.int (own_nb (vals 2))), (.int (2 : Int32)), (.ref b11)])) _
    refine XS.sipush X57.here hx rfl (hb hby d5_48) ?_
    show Steps p.tables e below (T57.setTop (mkF m 51 #[.val (.ref a1), .val (.int v1), .val (.int (2 : Int32))] [(.int (255 : Int32)), (.int (own_nb (vals 2))), (.int (2 : Int32)), (.ref b11)])) _
    refine XS.iand X57.here hx rfl (hb hby d5_51) rfl ?_
    show Steps p.tables e below (T57.setTop (mkF m 52 #[.val (.ref a1), .val (.int v1), .val (.int (2 : Int32))] [(.int ((own_nb (vals 2)) &&& (255 : Int32))), (.int (2 : Int32)), (.ref b11)])) _
    refine XS.i2c X57.here hx rfl (hb hby d5_52) rfl ?_
    exact kt
  obtain ⟨T61, h61, X61, e61, W61, V61, st61⟩ := ArF.stC X57 hx hZ e57 V46' (i := 2) (by decide) (by decide) (g := (mkF m 53 #[.val (.ref a1), .val (.int v1), .val (.int (2 : Int32))] [(.int (((own_nb (vals 2)) &&& (255 : Int32)).toUInt32.toUInt16.toUInt32.toInt32)), (.int (2 : Int32)), (.ref b11)])) rfl rfl (hb hby d5_53)
  have z62 : n0 ≤ h61.size := Nat.le_trans z47 (Keep.of_wr W61).1
  have N63 := Fr.snoc X61 N48 g_b11
  have V61' := V61.congr (f' := (own_fill vals 3)) (own_fillS (vals := vals) 2 ((congrArg (fun z : Int32 => nar .char (z.toUInt32.toUInt16.toUInt32.toInt32)) (own_byte_back (hrg 2 (by decide)))).trans (own_char_nar (own_byte_char (hrg 2 (by decide))))))
  have S64 : ∀ t, Steps p.tables e below (T61.setTop (mkF m 31 #[.val (.ref a1), .val (.int v1), .val (.int (3 : Int32))] [(.ref a1), (.int (3 : Int32))])) t → Steps p.tables e below (T61.setTop (mkF m 54 #[.val (.ref a1), .val (.int v1), .val (.int (2 : Int32))] [])) t := by
    intro t kt
    show Steps p.tables e below (T61.setTop (mkF m 54 #[.val (.ref a1), .val (.int v1), .val (.int (2 : Int32))] [])) _
    refine XS.iinc X61.here hx rfl (hb hby d5_54) rfl (l' := #[.val (.ref a1), .val (.int v1), .val (.int (3 : Int32))]) rfl ?_
    show Steps p.tables e below (T61.setTop (mkF m 57 #[.val (.ref a1), .val (.int v1), .val (.int (3 : Int32))] [])) _
    refine XS.goto X61.here hx rfl (pc0 := 57) (pc' := 29) rfl (hb hby d5_57) (by decide) (by decide) ?_
    show Steps p.tables e below (T61.setTop (mkF m 29 #[.val (.ref a1), .val (.int v1), .val (.int (3 : Int32))] [])) _
    refine XS.iloadN X61.here hx rfl (hb hby d5_29) rfl ?_
    show Steps p.tables e below (T61.setTop (mkF m 30 #[.val (.ref a1), .val (.int v1), .val (.int (3 : Int32))] [(.int (3 : Int32))])) _
    refine XS.aloadN X61.here hx rfl (hb hby d5_30) rfl rfl ?_
    exact kt
  have f65 := (f50.other W61 (Or.inl ne_a1_b11))
  obtain ⟨T66, X66, e66, st66⟩ := getF X61 hx hZ hown (host := "") (Or.inl (hw _ (List.mem_of_getElem? (i := 9) rfl))) Via.refl e61 f65 (g := (mkF m 31 #[.val (.ref a1), .val (.int v1), .val (.int (3 : Int32))] [(.ref a1), (.int (3 : Int32))])) rfl rfl (hb hby d5_31)
  have S67 : ∀ t, Steps p.tables e below (T66.setTop (mkF m 38 #[.val (.ref a1), .val (.int v1), .val (.int (3 : Int32))] [(.ref a1)])) t → Steps p.tables e below (T66.setTop (mkF m 34 #[.val (.ref a1), .val (.int v1), .val (.int (3 : Int32))] [(.int (4 : Int32)), (.int (3 : Int32))])) t := by
    intro t kt
    show Steps p.tables e below (T66.setTop (mkF m 34 #[.val (.ref a1), .val (.int v1), .val (.int (3 : Int32))] [(.int (4 : Int32)), (.int (3 : Int32))])) _
    refine XS.icmpNo X66.here hx rfl (hb hby d5_34) rfl (tlt (by decide)).2.1 ?_
    show Steps p.tables e below (T66.setTop (mkF m 37 #[.val (.ref a1), .val (.int v1), .val (.int (3 : Int32))] [])) _
    refine XS.aloadN X66.here hx rfl (hb hby d5_37) rfl rfl ?_
    exact kt
  have f68 := (f53.other W61 (Or.inl ne_a1_b11))
  obtain ⟨T69, X69, e69, st69⟩ := getF X66 hx hZ hown (host := "") (Or.inl (hw _ (List.mem_of_getElem? (i := 24) rfl))) Via.refl e66 f68 (g := (mkF m 38 #[.val (.ref a1), .val (.int v1), .val (.int (3 : Int32))] [(.ref a1)])) rfl rfl (hb hby d5_38)
  have S70 : ∀ t, Steps p.tables e below (T69.setTop (mkF m 43 #[.val (.ref a1), .val (.int v1), .val (.int (3 : Int32))] [(.ref a1), (.int (3 : Int32)), (.ref b11)])) t → Steps p.tables e below (T69.setTop (mkF m 41 #[.val (.ref a1), .val (.int v1), .val (.int (3 : Int32))] [(.ref b11)])) t := by
    intro t kt
    show Steps p.tables e below (T69.setTop (mkF m 41 #[.val (.ref a1), .val (.int v1), .val (.int (3 : Int32))] [(.ref b11)])) _
    refine XS.iloadN X69.here hx rfl (hb hby d5_41) rfl ?_
    show Steps p.tables e below (T69.setTop (mkF m 42 #[.val (.ref a1), .val (.int v1), .val (.int (3 : Int32))] [(.int (3 : Int32)), (.ref b11)])) _
    refine XS.aloadN X69.here hx rfl (hb hby d5_42) rfl rfl ?_
    exact kt
  have f71 := (f56.other W61 (Or.inl ne_a1_b11))
  obtain ⟨T72, X72, e72, st72⟩ := getF X69 hx hZ hown (host := "") (Or.inl (hw _ (List.mem_of_getElem? (i := 12) rfl))) Via.refl e69 f71 (g := (mkF m 43 #[.val (.ref a1), .val (.int v1), .val (.int (3 : Int32))] [(.ref a1), (.int (3 : Int32)), (.ref b11)])) rfl rfl (hb hby d5_43)
  have S73 : ∀ t, Steps p.tables e below (T72.setTop (mkF m 47 #[.val (.ref a1), .val (.int v1), .val (.int (3 : Int32))] [(.int (3 : Int32)), (.ref t1), (.int (3 : Int32)), (.ref b11)])) t → Steps p.tables e below (T72.setTop (mkF m 46 #[.val (.ref a1), .val (.int v1), .val (.int (3 : Int32))] [(.ref t1), (.int (3 : Int32)), (.ref b11)])) t := by
    intro t kt
    show Steps p.tables e below (T72.setTop (mkF m 46 #[.val (.ref a1), .val (.int v1), .val (.int (3 : Int32))] [(.ref t1), (.int (3 : Int32)), (.ref b11)])) _
    refine XS.iloadN X72.here hx rfl (hb hby d5_46) rfl ?_
    exact kt
  have f74 := (f59.other W61 ne_t1_b11)
  have S75 : ∀ t, Steps p.tables e below (T72.setTop (mkF m 53 #[.val (.ref a1), .val (.int v1), .val (.int (3 : Int32))] [(.int (((own_nb (vals 3)) &&& (255 : Int32)).toUInt32.toUInt16.toUInt32.toInt32)), (.int (3 : Int32)), (.ref b11)])) t → Steps p.tables e below (T72.setTop (mkF m 47 #[.val (.ref a1), .val (.int v1), .val (.int (3 : Int32))] [(.int (3 : Int32)), (.ref t1), (.int (3 : Int32)), (.ref b11)])) t := by
    intro t kt
    show Steps p.tables e below (T72.setTop (mkF m 47 #[.val (.ref a1), .val (.int v1), .val (.int (3 : Int32))] [(.int (3 : Int32)), (.ref t1), (.int (3 : Int32)), (.ref b11)])) _
    refine ArF.ldB X72 hx hZ e72 f74 (i := 3) (by decide) (by decide) (v := (own_nb (vals 3))) rfl (g := (mkF m 47 #[.val (.ref a1), .val (.int v1), .val (.int (3 : Int32))] [(.int (3 : Int32)), (.ref t1), (.int (3 : Int32)), (.ref b11)])) rfl rfl (hb hby d5_47) _ ?_
    show Steps p.tables e below (T72.setTop (mkF m 48 #[.val (.ref a1), .val (.int v1), .val (.int (3 : Int32))] [(.int (own_nb (vals 3))), (.int (3 : Int32)), (.ref b11)])) _
    refine XS.sipush X72.here hx rfl (hb hby d5_48) ?_
    show Steps p.tables e below (T72.setTop (mkF m 51 #[.val (.ref a1), .val (.int v1), .val (.int (3 : Int32))] [(.int (255 : Int32)), (.int (own_nb (vals 3))), (.int (3 : Int32)), (.ref b11)])) _
    refine XS.iand X72.here hx rfl (hb hby d5_51) rfl ?_
    show Steps p.tables e below (T72.setTop (mkF m 52 #[.val (.ref a1), .val (.int v1), .val (.int (3 : Int32))] [(.int ((own_nb (vals 3)) &&& (255 : Int32))), (.int (3 : Int32)), (.ref b11)])) _
    refine XS.i2c X72.here hx rfl (hb hby d5_52) rfl ?_
    exact kt
  obtain ⟨T76, h76, X76, e76, W76, V76, st76⟩ := ArF.stC X72 hx hZ e72 V61' (i := 3) (by decide) (by decide) (g := (mkF m 53 #[.val (.ref a1), .val (.int v1), .val (.int (3 : Int32))] [(.int (((own_nb (vals 3)) &&& (255 : Int32)).toUInt32.toUInt16.toUInt32.toInt32)), (.int (3 : Int32)), (.ref b11)])) rfl rfl (hb hby d5_53)
  have z77 : n0 ≤ h76.size := Nat.le_trans z62 (Keep.of_wr W76).1
  have N78 := Fr.snoc X76 N63 g_b11
  have V76' := V76.congr (f' := (own_fill vals 4)) (own_fillS (vals := vals) 3 ((congrArg (fun z : Int32 => nar .char (z.toUInt32.toUInt16.toUInt32.toInt32)) (own_byte_back (hrg 3 (by decide)))).trans (own_char_nar (own_byte_char (hrg 3 (by decide))))))
  have S79 : ∀ t, Steps p.tables e below (T76.setTop (mkF m 31 #[.val (.ref a1), .val (.int v1), .val (.int (4 : Int32))] [(.ref a1), (.int (4 : Int32))])) t → Steps p.tables e below (T76.setTop (mkF m 54 #[.val (.ref a1), .val (.int v1), .val (.int (3 : Int32))] [])) t := by
    intro t kt
    show Steps p.tables e below (T76.setTop (mkF m 54 #[.val (.ref a1), .val (.int v1), .val (.int (3 : Int32))] [])) _
    refine XS.iinc X76.here hx rfl (hb hby d5_54) rfl (l' := #[.val (.ref a1), .val (.int v1), .val (.int (4 : Int32))]) rfl ?_
    show Steps p.tables e below (T76.setTop (mkF m 57 #[.val (.ref a1), .val (.int v1), .val (.int (4 : Int32))] [])) _
    refine XS.goto X76.here hx rfl (pc0 := 57) (pc' := 29) rfl (hb hby d5_57) (by decide) (by decide) ?_
    show Steps p.tables e below (T76.setTop (mkF m 29 #[.val (.ref a1), .val (.int v1), .val (.int (4 : Int32))] [])) _
    refine XS.iloadN X76.here hx rfl (hb hby d5_29) rfl ?_
    show Steps p.tables e below (T76.setTop (mkF m 30 #[.val (.ref a1), .val (.int v1), .val (.int (4 : Int32))] [(.int (4 : Int32))])) _
    refine XS.aloadN X76.here hx rfl (hb hby d5_30) rfl rfl ?_
    exact kt
  have f80 := (f65.other W76 (Or.inl ne_a1_b11))
  obtain ⟨T81, X81, e81, st81⟩ := getF X76 hx hZ hown (host := "") (Or.inl (hw _ (List.mem_of_getElem? (i := 9) rfl))) Via.refl e76 f80 (g := (mkF m 31 #[.val (.ref a1), .val (.int v1), .val (.int (4 : Int32))] [(.ref a1), (.int (4 : Int32))])) rfl rfl (hb hby d5_31)
  have S82 : ∀ t, Steps p.tables e below (T81.setTop (mkF m 62 #[.val (.ref a1), .val (.int v1), .val (.int (4 : Int32))] [.null, (.ref a1)])) t → Steps p.tables e below (T81.setTop (mkF m 34 #[.val (.ref a1), .val (.int v1), .val (.int (4 : Int32))] [(.int (4 : Int32)), (.int (4 : Int32))])) t := by
    intro t kt
    show Steps p.tables e below (T81.setTop (mkF m 34 #[.val (.ref a1), .val (.int v1), .val (.int (4 : Int32))] [(.int (4 : Int32)), (.int (4 : Int32))])) _
    refine XS.icmpYes X81.here hx rfl (pc0 := 34) (pc' := 60) rfl (hb hby d5_34) rfl (flt (by decide)).2.1 (by decide) (by decide) ?_
    show Steps p.tables e below (T81.setTop (mkF m 60 #[.val (.ref a1), .val (.int v1), .val (.int (4 : Int32))] [])) _
    refine XS.aloadN X81.here hx rfl (hb hby d5_60) rfl rfl ?_
    show Steps p.tables e below (T81.setTop (mkF m 61 #[.val (.ref a1), .val (.int v1), .val (.int (4 : Int32))] [(.ref a1)])) _
    refine XS.aconstNull X81.here hx rfl (hb hby d5_61) ?_
    exact kt
  have f83 := (f71.other W76 (Or.inl ne_a1_b11))
  have f84 := (((((f15.wr W16).wr W31).wr W46).wr W61).wr W76)
  obtain ⟨T85, h85, X85, e85, W85, st85⟩ := putF X81 hx hZ hown (host := "") (Or.inl (hw _ (List.mem_of_getElem? (i := 12) rfl))) Via.refl e81 f83 f84 (Or.inl (hw _ (List.mem_of_getElem? (i := 13) rfl))) (hw _ (List.mem_of_getElem? (i := 1) rfl)) (ty := (.array .byte)) (by decide) rfl rfl (g := (mkF m 62 #[.val (.ref a1), .val (.int v1), .val (.int (4 : Int32))] [.null, (.ref a1)])) rfl rfl (hb hby d5_62)
  have z86 : n0 ≤ h85.size := Nat.le_trans z77 (Keep.of_wr W85).1
  have N87 := Fr.snoc X85 N78 g_a1
  have Fw85 := f83.same W85
  have C88 : ∀ t, Steps p.tables e below (T85.setTop (mkF m 65 #[.val (.ref a1), .val (.int v1), .val (.int (4 : Int32))] [])) t → Steps p.tables e below (s₁.setTop (mkF m 0 #[.val (.ref a1), .val (.int v1), .unset] [])) t := (fun t k => (S7 t (st8 t (S9 t (st10 t (st11 t (st16 t (S19 t (st21 t (S22 t (st23 t (S24 t (st26 t (S27 t (S29 t (st31 t (S34 t (st36 t (S37 t (st39 t (S40 t (st42 t (S43 t (S45 t (st46 t (S49 t (st51 t (S52 t (st54 t (S55 t (st57 t (S58 t (S60 t (st61 t (S64 t (st66 t (S67 t (st69 t (S70 t (st72 t (S73 t (S75 t (st76 t (S79 t (st81 t (S82 t (st85 t k)))))))))))))))))))))))))))))))))))))))))))))))
  obtain ⟨fs, hr, hrun, hended, hW, hsame⟩ := X85.leave (v := none) (fun _ => rfl)
  refine ⟨_, _, pre0 _ (C88 _ ?_), hrun, hended, _, _, rfl, ?_, ⟨_, rfl⟩, hW, hsame.mono (by decide) (by decide)⟩
  · exact X85.returnOut hx Bd.returns (hb hby d5_65) hr
  · show Q_rm_wBC Z a1 v1 t1 vals h0 n0 _ T85.heap _
    rw [e85]
    have f89 := (V76'.other W85 (Ne.symm ne_a1_b11))
    have V90 := f89.congr (f' := (fun q => (.int (vals q)))) own_fill4
    have f91 := (f84.wr W85)
    have f92 := (f80.other W85 (Or.inr (slot_ne (Or.inl (hw _ (List.mem_of_getElem? (i := 10) rfl))) (Or.inl (hw _ (List.mem_of_getElem? (i := 13) rfl))) (by decide) (t := .int) (t' := (.array .byte)) (by decide) (by decide))))
    have f93 := ((f68.other W76 (Or.inl ne_a1_b11)).other W85 (Or.inr (slot_ne (Or.inl (hw _ (List.mem_of_getElem? (i := 25) rfl))) (Or.inl (hw _ (List.mem_of_getElem? (i := 13) rfl))) (by decide) (t := (.array .char)) (t' := (.array .byte)) (by decide) (by decide))))
    have f94 := (((((((F5.ext E11).other W16 (Or.inr (slot_ne (Or.inl (hw _ (List.mem_of_getElem? (i := 27) rfl))) (Or.inl (hw _ (List.mem_of_getElem? (i := 25) rfl))) (by decide) (t := (.array .int)) (t' := (.array .char)) (by decide) (by decide)))).other W31 (Or.inl ne_a1_b11)).other W46 (Or.inl ne_a1_b11)).other W61 (Or.inl ne_a1_b11)).other W76 (Or.inl ne_a1_b11)).other W85 (Or.inr (slot_ne (Or.inl (hw _ (List.mem_of_getElem? (i := 27) rfl))) (Or.inl (hw _ (List.mem_of_getElem? (i := 13) rfl))) (by decide) (t := (.array .int)) (t' := (.array .byte)) (by decide) (by decide))))
    exact ⟨rfl, N87, z86, ⟨b11, ⟨g_a1, g_b11, ne_a1_b11, f91, f92⟩, Fw85, f93, f94, V90, fun i hi => own_byte_char (hrg i hi)⟩⟩
theorem ef_rm_wBI (m : MethodId) (x0 : Addr) (x1 : Int32) : entryFrame m #[(.ref x0), (.int x1)] 3 = mkF m 0 #[.val (.ref x0), .val (.int x1), .unset] [] := by first | (simp [entryFrame, mkF, argsToLocals, Value.category]; done) | rfl
def Q_rm_wBI (Z : State) (a1 : Addr) (v1 : Int32) (t1 : Addr) (vals : Nat → Int32) (h0 : Heap) (n0 : Nat) (v : Option Value) (h : Heap) (L : List Loc) : Prop := v = none ∧ Fr n0 L ∧ n0 ≤ h.size ∧ ∃ t, own_I Z h n0 a1 t vals
set_option maxRecDepth 65536 in
set_option maxHeartbeats 40000000 in
theorem rm_wBI (l : Launch) (Z : State) (a0 : Array Value) (hw : ∀ d ∈ tables_1, d.before a0 Z = true) (ws : List Jvm.Cond) (a1 : Addr) (v1 : Int32) (t1 : Addr) (vals : Nat → Int32) (h0 : Heap) (n0 : Nat) (Z0 : n0 ≤ h0.size) (F95 : Exa Z h0 a1 "com/example/joinery/joinery/NarrowInts") (F96 : Fld Z h0 a1 "com/example/joinery/joinery/NarrowInts" "capacity" "I" (.int (4 : Int32))) (F97 : Fld Z h0 a1 "com/example/joinery/joinery/NarrowInts" "bytes" "[B" (.ref t1)) (F98 : Fld Z h0 a1 "com/example/joinery/joinery/NarrowInts" "chars" "[C" .null) (F99 : Fld Z h0 a1 "com/example/joinery/joinery/NarrowInts" "ints" "[I" .null) (F100 : ArF Z h0 t1 .byte 4 (fun q => (.int (own_nb (vals q))))) (g_a1 : n0 ≤ a1) (g_t1 : n0 ≤ t1) (ne_a1_t1 : a1 ≠ t1) (hrg : ∀ i, i < 4 → own_byte (vals i)) (hv : v1 < (0 : Int32) ∨ (65535 : Int32) < v1) :
    MetFree l (⟨"com/example/joinery/joinery/NarrowInts", "widenFor", "(I)V"⟩ : MethodName) (head1 (Jvm.Cond.code (⟨"com/example/joinery/joinery/NarrowInts", "widenFor", "(I)V"⟩ : MethodName) prog_31_method_6_code 3 none :: ws) ({ frames := 0, cells := 1, slots := 4, locals := 0 } : Room)) (fun a U => a = #[(.ref a1), (.int v1)] ∧ Z.Warmed39 U.vm ∧ U.heap = h0) (fun _ _ _ _ _ => True) (fun _ U o U' => ∃ v L, o = .returned v ∧ Q_rm_wBI Z a1 v1 t1 vals h0 n0 v U'.heap L ∧ FrameEnd U o U' L ({ frames := 0, cells := 1, slots := 4, locals := 0 } : Room).cells ({ frames := 0, cells := 1, slots := 4, locals := 0 } : Room).slots) := by
  refine MetFree.of_bodySF (plainFor_of_name pn_0) hisR ?_
  intro p e s m args below meth c s₁ Bd hml0 hP hK
  obtain ⟨rfl, hZ, hh⟩ := hP
  have hx := Bd.exec
  have hby := Bd.bytes
  have hml : c.maxLocals = 3 := hml0
  have hown : s.vm.findClass "com/example/joinery/joinery/NarrowInts" = some m.cls := findClass_of_methodNamed Bd.named
  have hnm := (name_of_methodNamed Bd.named Bd.method).1
  have X0 : Stand p l e ({ frames := 0, cells := 1, slots := 4, locals := 0 } : Room) s m #[(.ref a1), (.int v1)] below meth c s₁ [] 0 0 := Stand.of_body Bd
  have e0 : s₁.heap = h0 := by rw [← hh, Bd.state]; rfl
  have N0 := Fr.nil n0
  have pre0 : ∀ t, Steps p.tables e below (s₁.setTop (mkF m 0 #[.val (.ref a1), .val (.int v1), .unset] [])) t → Steps p.tables e below (s₁.setTop (entryFrame m #[(.ref a1), (.int v1)] 3)) t := fun t k => castTop (ef_rm_wBI m a1 v1) k
  have S101 : ∀ t, Steps p.tables e below (s₁.setTop (mkF m 1 #[.val (.ref a1), .val (.int v1), .unset] [(.ref a1)])) t → Steps p.tables e below (s₁.setTop (mkF m 0 #[.val (.ref a1), .val (.int v1), .unset] [])) t := by
    intro t kt
    show Steps p.tables e below (s₁.setTop (mkF m 0 #[.val (.ref a1), .val (.int v1), .unset] [])) _
    refine XS.aloadN X0.here hx rfl (hb hby d5_0) rfl rfl ?_
    exact kt
  obtain ⟨T102, X102, e102, st102⟩ := getF X0 hx hZ hown (host := "") (Or.inl (hw _ (List.mem_of_getElem? (i := 12) rfl))) Via.refl e0 F97 (g := (mkF m 1 #[.val (.ref a1), .val (.int v1), .unset] [(.ref a1)])) rfl rfl (hb hby d5_1)
  have S103 : ∀ t, Steps p.tables e below (T102.setTop (mkF m 8 #[.val (.ref a1), .val (.int v1), .unset] [(.int v1)])) t → Steps p.tables e below (T102.setTop (mkF m 4 #[.val (.ref a1), .val (.int v1), .unset] [(.ref t1)])) t := by
    intro t kt
    show Steps p.tables e below (T102.setTop (mkF m 4 #[.val (.ref a1), .val (.int v1), .unset] [(.ref t1)])) _
    refine XS.ifnullNo X102.here hx rfl (hb hby d5_4) rfl ?_
    show Steps p.tables e below (T102.setTop (mkF m 7 #[.val (.ref a1), .val (.int v1), .unset] [])) _
    refine XS.iloadN X102.here hx rfl (hb hby d5_7) rfl ?_
    exact kt
  by_cases hc104 : v1 < (0 : Int32)
  · have S105 : ∀ t, Steps p.tables e below (T102.setTop (mkF m 68 #[.val (.ref a1), .val (.int v1), .unset] [(.ref a1), (.ref a1)])) t → Steps p.tables e below (T102.setTop (mkF m 8 #[.val (.ref a1), .val (.int v1), .unset] [(.int v1)])) t := by
      intro t kt
      show Steps p.tables e below (T102.setTop (mkF m 8 #[.val (.ref a1), .val (.int v1), .unset] [(.int v1)])) _
      refine XS.ifYes X102.here hx rfl (pc0 := 8) (pc' := 66) rfl (hb hby d5_8) rfl ((if0 _ _).trans (tlt hc104).1) (by decide) (by decide) ?_
      show Steps p.tables e below (T102.setTop (mkF m 66 #[.val (.ref a1), .val (.int v1), .unset] [])) _
      refine XS.aloadN X102.here hx rfl (hb hby d5_66) rfl rfl ?_
      show Steps p.tables e below (T102.setTop (mkF m 67 #[.val (.ref a1), .val (.int v1), .unset] [(.ref a1)])) _
      refine XS.aloadN X102.here hx rfl (hb hby d5_67) rfl rfl ?_
      exact kt
    obtain ⟨T106, X106, e106, st106⟩ := getF X102 hx hZ hown (host := "") (Or.inl (hw _ (List.mem_of_getElem? (i := 9) rfl))) Via.refl e102 F96 (g := (mkF m 68 #[.val (.ref a1), .val (.int v1), .unset] [(.ref a1), (.ref a1)])) rfl rfl (hb hby d5_68)
    obtain ⟨T107, h107, k107, X107, e107, E107, A107, st107⟩ := newP X106 hx hZ (hw _ (List.mem_of_getElem? (i := 33) rfl)) e106 (g := (mkF m 71 #[.val (.ref a1), .val (.int v1), .unset] [(.int (4 : Int32)), (.ref a1)])) rfl (hb hby d5_71) rfl (by decide) (cap := 4) (by decide) (by decide) (by decide) (by decide)
    obtain ⟨b107, g107⟩ : ∃ z, z = h0.size := ⟨_, rfl⟩
    rw [← g107] at A107 st107
    have g_b107 : n0 ≤ b107 := Nat.le_trans Z0 (Nat.le_of_eq g107.symm)
    have K108 := (Keep.refl h0 [a1])
    have sz_b107 : h0.size ≤ b107 := Nat.le_trans K108.1 (Nat.le_of_eq g107.symm)
    have ne_a1_b107 : a1 ≠ b107 := Nat.ne_of_lt (Nat.lt_of_lt_of_le F95.lt (Nat.le_of_eq g107.symm))
    have ne_t1_b107 : t1 ≠ b107 := Nat.ne_of_lt (Nat.lt_of_lt_of_le F100.lt (Nat.le_of_eq g107.symm))
    have z109 : n0 ≤ h107.size := Nat.le_trans Z0 E107.1
    have V107 : ArF Z h107 b107 .int 4 (fun _ => (.int (0 : Int32))) := ArF.new A107 (by decide) rfl
    have f110 := (F99.ext E107)
    have f111 := (F95.ext E107)
    obtain ⟨T112, h112, X112, e112, W112, st112⟩ := putF X107 hx hZ hown (host := "") (Or.inl (hw _ (List.mem_of_getElem? (i := 26) rfl))) Via.refl e107 f110 f111 (Or.inl (hw _ (List.mem_of_getElem? (i := 27) rfl))) (hw _ (List.mem_of_getElem? (i := 1) rfl)) (ty := (.array .int)) (by decide) rfl rfl (g := (mkF m 73 #[.val (.ref a1), .val (.int v1), .unset] [(.ref b107), (.ref a1)])) rfl rfl (hb hby d5_73)
    have z113 : n0 ≤ h112.size := Nat.le_trans z109 (Keep.of_wr W112).1
    have N114 := Fr.snoc X112 N0 g_a1
    have Fw112 := f110.same W112
    have S115 : ∀ t, Steps p.tables e below (T112.setTop (mkF m 80 #[.val (.ref a1), .val (.int v1), .val (.int (0 : Int32))] [(.ref a1), (.int (0 : Int32))])) t → Steps p.tables e below (T112.setTop (mkF m 76 #[.val (.ref a1), .val (.int v1), .unset] [])) t := by
      intro t kt
      show Steps p.tables e below (T112.setTop (mkF m 76 #[.val (.ref a1), .val (.int v1), .unset] [])) _
      refine XS.iconst X112.here hx rfl (hb hby d5_76) ?_
      show Steps p.tables e below (T112.setTop (mkF m 77 #[.val (.ref a1), .val (.int v1), .unset] [(.int (0 : Int32))])) _
      refine XS.istoreN X112.here hx rfl (hb hby d5_77) rfl (l' := #[.val (.ref a1), .val (.int v1), .val (.int (0 : Int32))]) rfl ?_
      show Steps p.tables e below (T112.setTop (mkF m 78 #[.val (.ref a1), .val (.int v1), .val (.int (0 : Int32))] [])) _
      refine XS.iloadN X112.here hx rfl (hb hby d5_78) rfl ?_
      show Steps p.tables e below (T112.setTop (mkF m 79 #[.val (.ref a1), .val (.int v1), .val (.int (0 : Int32))] [(.int (0 : Int32))])) _
      refine XS.aloadN X112.here hx rfl (hb hby d5_79) rfl rfl ?_
      exact kt
    have f116 := ((F96.ext E107).other W112 (Or.inr (slot_ne (Or.inl (hw _ (List.mem_of_getElem? (i := 10) rfl))) (Or.inl (hw _ (List.mem_of_getElem? (i := 27) rfl))) (by decide) (t := .int) (t' := (.array .int)) (by decide) (by decide))))
    obtain ⟨T117, X117, e117, st117⟩ := getF X112 hx hZ hown (host := "") (Or.inl (hw _ (List.mem_of_getElem? (i := 9) rfl))) Via.refl e112 f116 (g := (mkF m 80 #[.val (.ref a1), .val (.int v1), .val (.int (0 : Int32))] [(.ref a1), (.int (0 : Int32))])) rfl rfl (hb hby d5_80)
    have S118 : ∀ t, Steps p.tables e below (T117.setTop (mkF m 87 #[.val (.ref a1), .val (.int v1), .val (.int (0 : Int32))] [(.ref a1)])) t → Steps p.tables e below (T117.setTop (mkF m 83 #[.val (.ref a1), .val (.int v1), .val (.int (0 : Int32))] [(.int (4 : Int32)), (.int (0 : Int32))])) t := by
      intro t kt
      show Steps p.tables e below (T117.setTop (mkF m 83 #[.val (.ref a1), .val (.int v1), .val (.int (0 : Int32))] [(.int (4 : Int32)), (.int (0 : Int32))])) _
      refine XS.icmpNo X117.here hx rfl (hb hby d5_83) rfl (tlt (by decide)).2.1 ?_
      show Steps p.tables e below (T117.setTop (mkF m 86 #[.val (.ref a1), .val (.int v1), .val (.int (0 : Int32))] [])) _
      refine XS.aloadN X117.here hx rfl (hb hby d5_86) rfl rfl ?_
      exact kt
    obtain ⟨T119, X119, e119, st119⟩ := getF X117 hx hZ hown (host := "") (Or.inl (hw _ (List.mem_of_getElem? (i := 26) rfl))) Via.refl e117 Fw112 (g := (mkF m 87 #[.val (.ref a1), .val (.int v1), .val (.int (0 : Int32))] [(.ref a1)])) rfl rfl (hb hby d5_87)
    have S120 : ∀ t, Steps p.tables e below (T119.setTop (mkF m 92 #[.val (.ref a1), .val (.int v1), .val (.int (0 : Int32))] [(.ref a1), (.int (0 : Int32)), (.ref b107)])) t → Steps p.tables e below (T119.setTop (mkF m 90 #[.val (.ref a1), .val (.int v1), .val (.int (0 : Int32))] [(.ref b107)])) t := by
      intro t kt
      show Steps p.tables e below (T119.setTop (mkF m 90 #[.val (.ref a1), .val (.int v1), .val (.int (0 : Int32))] [(.ref b107)])) _
      refine XS.iloadN X119.here hx rfl (hb hby d5_90) rfl ?_
      show Steps p.tables e below (T119.setTop (mkF m 91 #[.val (.ref a1), .val (.int v1), .val (.int (0 : Int32))] [(.int (0 : Int32)), (.ref b107)])) _
      refine XS.aloadN X119.here hx rfl (hb hby d5_91) rfl rfl ?_
      exact kt
    have f121 := ((F97.ext E107).other W112 (Or.inr (slot_ne (Or.inl (hw _ (List.mem_of_getElem? (i := 13) rfl))) (Or.inl (hw _ (List.mem_of_getElem? (i := 27) rfl))) (by decide) (t := (.array .byte)) (t' := (.array .int)) (by decide) (by decide))))
    obtain ⟨T122, X122, e122, st122⟩ := getF X119 hx hZ hown (host := "") (Or.inl (hw _ (List.mem_of_getElem? (i := 12) rfl))) Via.refl e119 f121 (g := (mkF m 92 #[.val (.ref a1), .val (.int v1), .val (.int (0 : Int32))] [(.ref a1), (.int (0 : Int32)), (.ref b107)])) rfl rfl (hb hby d5_92)
    have S123 : ∀ t, Steps p.tables e below (T122.setTop (mkF m 99 #[.val (.ref a1), .val (.int v1), .val (.int (0 : Int32))] [(.ref a1), (.int (0 : Int32)), (.ref b107)])) t → Steps p.tables e below (T122.setTop (mkF m 95 #[.val (.ref a1), .val (.int v1), .val (.int (0 : Int32))] [(.ref t1), (.int (0 : Int32)), (.ref b107)])) t := by
      intro t kt
      show Steps p.tables e below (T122.setTop (mkF m 95 #[.val (.ref a1), .val (.int v1), .val (.int (0 : Int32))] [(.ref t1), (.int (0 : Int32)), (.ref b107)])) _
      refine XS.ifnullNo X122.here hx rfl (hb hby d5_95) rfl ?_
      show Steps p.tables e below (T122.setTop (mkF m 98 #[.val (.ref a1), .val (.int v1), .val (.int (0 : Int32))] [(.int (0 : Int32)), (.ref b107)])) _
      refine XS.aloadN X122.here hx rfl (hb hby d5_98) rfl rfl ?_
      exact kt
    obtain ⟨T124, X124, e124, st124⟩ := getF X122 hx hZ hown (host := "") (Or.inl (hw _ (List.mem_of_getElem? (i := 12) rfl))) Via.refl e122 f121 (g := (mkF m 99 #[.val (.ref a1), .val (.int v1), .val (.int (0 : Int32))] [(.ref a1), (.int (0 : Int32)), (.ref b107)])) rfl rfl (hb hby d5_99)
    have S125 : ∀ t, Steps p.tables e below (T124.setTop (mkF m 103 #[.val (.ref a1), .val (.int v1), .val (.int (0 : Int32))] [(.int (0 : Int32)), (.ref t1), (.int (0 : Int32)), (.ref b107)])) t → Steps p.tables e below (T124.setTop (mkF m 102 #[.val (.ref a1), .val (.int v1), .val (.int (0 : Int32))] [(.ref t1), (.int (0 : Int32)), (.ref b107)])) t := by
      intro t kt
      show Steps p.tables e below (T124.setTop (mkF m 102 #[.val (.ref a1), .val (.int v1), .val (.int (0 : Int32))] [(.ref t1), (.int (0 : Int32)), (.ref b107)])) _
      refine XS.iloadN X124.here hx rfl (hb hby d5_102) rfl ?_
      exact kt
    have f126 := ((F100.ext E107).other W112 (Ne.symm ne_a1_t1))
    have S127 : ∀ t, Steps p.tables e below (T124.setTop (mkF m 117 #[.val (.ref a1), .val (.int v1), .val (.int (0 : Int32))] [(.int ((own_nb (vals 0)) &&& (255 : Int32))), (.int (0 : Int32)), (.ref b107)])) t → Steps p.tables e below (T124.setTop (mkF m 103 #[.val (.ref a1), .val (.int v1), .val (.int (0 : Int32))] [(.int (0 : Int32)), (.ref t1), (.int (0 : Int32)), (.ref b107)])) t := by
      intro t kt
      show Steps p.tables e below (T124.setTop (mkF m 103 #[.val (.ref a1), .val (.int v1), .val (.int (0 : Int32))] [(.int (0 : Int32)), (.ref t1), (.int (0 : Int32)), (.ref b107)])) _
      refine ArF.ldB X124 hx hZ e124 f126 (i := 0) (by decide) (by decide) (v := (own_nb (vals 0))) rfl (g := (mkF m 103 #[.val (.ref a1), .val (.int v1), .val (.int (0 : Int32))] [(.int (0 : Int32)), (.ref t1), (.int (0 : Int32)), (.ref b107)])) rfl rfl (hb hby d5_103) _ ?_
      show Steps p.tables e below (T124.setTop (mkF m 104 #[.val (.ref a1), .val (.int v1), .val (.int (0 : Int32))] [(.int (own_nb (vals 0))), (.int (0 : Int32)), (.ref b107)])) _
      refine XS.sipush X124.here hx rfl (hb hby d5_104) ?_
      show Steps p.tables e below (T124.setTop (mkF m 107 #[.val (.ref a1), .val (.int v1), .val (.int (0 : Int32))] [(.int (255 : Int32)), (.int (own_nb (vals 0))), (.int (0 : Int32)), (.ref b107)])) _
      refine XS.iand X124.here hx rfl (hb hby d5_107) rfl ?_
      show Steps p.tables e below (T124.setTop (mkF m 108 #[.val (.ref a1), .val (.int v1), .val (.int (0 : Int32))] [(.int ((own_nb (vals 0)) &&& (255 : Int32))), (.int (0 : Int32)), (.ref b107)])) _
      refine XS.goto X124.here hx rfl (pc0 := 108) (pc' := 117) rfl (hb hby d5_108) (by decide) (by decide) ?_
      exact kt
    have f128 := (V107.other W112 (Ne.symm ne_a1_b107))
    obtain ⟨T129, h129, X129, e129, W129, V129, st129⟩ := ArF.stI X124 hx hZ e124 f128 (i := 0) (by decide) (by decide) (g := (mkF m 117 #[.val (.ref a1), .val (.int v1), .val (.int (0 : Int32))] [(.int ((own_nb (vals 0)) &&& (255 : Int32))), (.int (0 : Int32)), (.ref b107)])) rfl rfl (hb hby d5_117)
    have z130 : n0 ≤ h129.size := Nat.le_trans z113 (Keep.of_wr W129).1
    have N131 := Fr.snoc X129 N114 g_b107
    have V129' := V129.congr (f' := (own_fill vals 1)) (own_fill0 (vals := vals) (own_byte_back (hrg 0 (by decide))))
    have S132 : ∀ t, Steps p.tables e below (T129.setTop (mkF m 80 #[.val (.ref a1), .val (.int v1), .val (.int (1 : Int32))] [(.ref a1), (.int (1 : Int32))])) t → Steps p.tables e below (T129.setTop (mkF m 118 #[.val (.ref a1), .val (.int v1), .val (.int (0 : Int32))] [])) t := by
      intro t kt
      show Steps p.tables e below (T129.setTop (mkF m 118 #[.val (.ref a1), .val (.int v1), .val (.int (0 : Int32))] [])) _
      refine XS.iinc X129.here hx rfl (hb hby d5_118) rfl (l' := #[.val (.ref a1), .val (.int v1), .val (.int (1 : Int32))]) rfl ?_
      show Steps p.tables e below (T129.setTop (mkF m 121 #[.val (.ref a1), .val (.int v1), .val (.int (1 : Int32))] [])) _
      refine XS.goto X129.here hx rfl (pc0 := 121) (pc' := 78) rfl (hb hby d5_121) (by decide) (by decide) ?_
      show Steps p.tables e below (T129.setTop (mkF m 78 #[.val (.ref a1), .val (.int v1), .val (.int (1 : Int32))] [])) _
      refine XS.iloadN X129.here hx rfl (hb hby d5_78) rfl ?_
      show Steps p.tables e below (T129.setTop (mkF m 79 #[.val (.ref a1), .val (.int v1), .val (.int (1 : Int32))] [(.int (1 : Int32))])) _
      refine XS.aloadN X129.here hx rfl (hb hby d5_79) rfl rfl ?_
      exact kt
    have f133 := (f116.other W129 (Or.inl ne_a1_b107))
    obtain ⟨T134, X134, e134, st134⟩ := getF X129 hx hZ hown (host := "") (Or.inl (hw _ (List.mem_of_getElem? (i := 9) rfl))) Via.refl e129 f133 (g := (mkF m 80 #[.val (.ref a1), .val (.int v1), .val (.int (1 : Int32))] [(.ref a1), (.int (1 : Int32))])) rfl rfl (hb hby d5_80)
    have S135 : ∀ t, Steps p.tables e below (T134.setTop (mkF m 87 #[.val (.ref a1), .val (.int v1), .val (.int (1 : Int32))] [(.ref a1)])) t → Steps p.tables e below (T134.setTop (mkF m 83 #[.val (.ref a1), .val (.int v1), .val (.int (1 : Int32))] [(.int (4 : Int32)), (.int (1 : Int32))])) t := by
      intro t kt
      show Steps p.tables e below (T134.setTop (mkF m 83 #[.val (.ref a1), .val (.int v1), .val (.int (1 : Int32))] [(.int (4 : Int32)), (.int (1 : Int32))])) _
      refine XS.icmpNo X134.here hx rfl (hb hby d5_83) rfl (tlt (by decide)).2.1 ?_
      show Steps p.tables e below (T134.setTop (mkF m 86 #[.val (.ref a1), .val (.int v1), .val (.int (1 : Int32))] [])) _
      refine XS.aloadN X134.here hx rfl (hb hby d5_86) rfl rfl ?_
      exact kt
    have f136 := (Fw112.other W129 (Or.inl ne_a1_b107))
    obtain ⟨T137, X137, e137, st137⟩ := getF X134 hx hZ hown (host := "") (Or.inl (hw _ (List.mem_of_getElem? (i := 26) rfl))) Via.refl e134 f136 (g := (mkF m 87 #[.val (.ref a1), .val (.int v1), .val (.int (1 : Int32))] [(.ref a1)])) rfl rfl (hb hby d5_87)
    have S138 : ∀ t, Steps p.tables e below (T137.setTop (mkF m 92 #[.val (.ref a1), .val (.int v1), .val (.int (1 : Int32))] [(.ref a1), (.int (1 : Int32)), (.ref b107)])) t → Steps p.tables e below (T137.setTop (mkF m 90 #[.val (.ref a1), .val (.int v1), .val (.int (1 : Int32))] [(.ref b107)])) t := by
      intro t kt
      show Steps p.tables e below (T137.setTop (mkF m 90 #[.val (.ref a1), .val (.int v1), .val (.int (1 : Int32))] [(.ref b107)])) _
      refine XS.iloadN X137.here hx rfl (hb hby d5_90) rfl ?_
      show Steps p.tables e below (T137.setTop (mkF m 91 #[.val (.ref a1), .val (.int v1), .val (.int (1 : Int32))] [(.int (1 : Int32)), (.ref b107)])) _
      refine XS.aloadN X137.here hx rfl (hb hby d5_91) rfl rfl ?_
      exact kt
    have f139 := (f121.other W129 (Or.inl ne_a1_b107))
    obtain ⟨T140, X140, e140, st140⟩ := getF X137 hx hZ hown (host := "") (Or.inl (hw _ (List.mem_of_getElem? (i := 12) rfl))) Via.refl e137 f139 (g := (mkF m 92 #[.val (.ref a1), .val (.int v1), .val (.int (1 : Int32))] [(.ref a1), (.int (1 : Int32)), (.ref b107)])) rfl rfl (hb hby d5_92)
    have S141 : ∀ t, Steps p.tables e below (T140.setTop (mkF m 99 #[.val (.ref a1), .val (.int v1), .val (.int (1 : Int32))] [(.ref a1), (.int (1 : Int32)), (.ref b107)])) t → Steps p.tables e below (T140.setTop (mkF m 95 #[.val (.ref a1), .val (.int v1), .val (.int (1 : Int32))] [(.ref t1), (.int (1 : Int32)), (.ref b107)])) t := by
      intro t kt
      show Steps p.tables e below (T140.setTop (mkF m 95 #[.val (.ref a1), .val (.int v1), .val (.int (1 : Int32))] [(.ref t1), (.int (1 : Int32)), (.ref b107)])) _
      refine XS.ifnullNo X140.here hx rfl (hb hby d5_95) rfl ?_
      show Steps p.tables e below (T140.setTop (mkF m 98 #[.val (.ref a1), .val (.int v1), .val (.int (1 : Int32))] [(.int (1 : Int32)), (.ref b107)])) _
      refine XS.aloadN X140.here hx rfl (hb hby d5_98) rfl rfl ?_
      exact kt
    obtain ⟨T142, X142, e142, st142⟩ := getF X140 hx hZ hown (host := "") (Or.inl (hw _ (List.mem_of_getElem? (i := 12) rfl))) Via.refl e140 f139 (g := (mkF m 99 #[.val (.ref a1), .val (.int v1), .val (.int (1 : Int32))] [(.ref a1), (.int (1 : Int32)), (.ref b107)])) rfl rfl (hb hby d5_99)
    have S143 : ∀ t, Steps p.tables e below (T142.setTop (mkF m 103 #[.val (.ref a1), .val (.int v1), .val (.int (1 : Int32))] [(.int (1 : Int32)), (.ref t1), (.int (1 : Int32)), (.ref b107)])) t → Steps p.tables e below (T142.setTop (mkF m 102 #[.val (.ref a1), .val (.int v1), .val (.int (1 : Int32))] [(.ref t1), (.int (1 : Int32)), (.ref b107)])) t := by
      intro t kt
      show Steps p.tables e below (T142.setTop (mkF m 102 #[.val (.ref a1), .val (.int v1), .val (.int (1 : Int32))] [(.ref t1), (.int (1 : Int32)), (.ref b107)])) _
      refine XS.iloadN X142.here hx rfl (hb hby d5_102) rfl ?_
      exact kt
    have f144 := (f126.other W129 ne_t1_b107)
    have S145 : ∀ t, Steps p.tables e below (T142.setTop (mkF m 117 #[.val (.ref a1), .val (.int v1), .val (.int (1 : Int32))] [(.int ((own_nb (vals 1)) &&& (255 : Int32))), (.int (1 : Int32)), (.ref b107)])) t → Steps p.tables e below (T142.setTop (mkF m 103 #[.val (.ref a1), .val (.int v1), .val (.int (1 : Int32))] [(.int (1 : Int32)), (.ref t1), (.int (1 : Int32)), (.ref b107)])) t := by
      intro t kt
      show Steps p.tables e below (T142.setTop (mkF m 103 #[.val (.ref a1), .val (.int v1), .val (.int (1 : Int32))] [(.int (1 : Int32)), (.ref t1), (.int (1 : Int32)), (.ref b107)])) _
      refine ArF.ldB X142 hx hZ e142 f144 (i := 1) (by decide) (by decide) (v := (own_nb (vals 1))) rfl (g := (mkF m 103 #[.val (.ref a1), .val (.int v1), .val (.int (1 : Int32))] [(.int (1 : Int32)), (.ref t1), (.int (1 : Int32)), (.ref b107)])) rfl rfl (hb hby d5_103) _ ?_
      show Steps p.tables e below (T142.setTop (mkF m 104 #[.val (.ref a1), .val (.int v1), .val (.int (1 : Int32))] [(.int (own_nb (vals 1))), (.int (1 : Int32)), (.ref b107)])) _
      refine XS.sipush X142.here hx rfl (hb hby d5_104) ?_
      show Steps p.tables e below (T142.setTop (mkF m 107 #[.val (.ref a1), .val (.int v1), .val (.int (1 : Int32))] [(.int (255 : Int32)), (.int (own_nb (vals 1))), (.int (1 : Int32)), (.ref b107)])) _
      refine XS.iand X142.here hx rfl (hb hby d5_107) rfl ?_
      show Steps p.tables e below (T142.setTop (mkF m 108 #[.val (.ref a1), .val (.int v1), .val (.int (1 : Int32))] [(.int ((own_nb (vals 1)) &&& (255 : Int32))), (.int (1 : Int32)), (.ref b107)])) _
      refine XS.goto X142.here hx rfl (pc0 := 108) (pc' := 117) rfl (hb hby d5_108) (by decide) (by decide) ?_
      exact kt
    obtain ⟨T146, h146, X146, e146, W146, V146, st146⟩ := ArF.stI X142 hx hZ e142 V129' (i := 1) (by decide) (by decide) (g := (mkF m 117 #[.val (.ref a1), .val (.int v1), .val (.int (1 : Int32))] [(.int ((own_nb (vals 1)) &&& (255 : Int32))), (.int (1 : Int32)), (.ref b107)])) rfl rfl (hb hby d5_117)
    have z147 : n0 ≤ h146.size := Nat.le_trans z130 (Keep.of_wr W146).1
    have N148 := Fr.snoc X146 N131 g_b107
    have V146' := V146.congr (f' := (own_fill vals 2)) (own_fillS (vals := vals) 1 (own_byte_back (hrg 1 (by decide))))
    have S149 : ∀ t, Steps p.tables e below (T146.setTop (mkF m 80 #[.val (.ref a1), .val (.int v1), .val (.int (2 : Int32))] [(.ref a1), (.int (2 : Int32))])) t → Steps p.tables e below (T146.setTop (mkF m 118 #[.val (.ref a1), .val (.int v1), .val (.int (1 : Int32))] [])) t := by
      intro t kt
      show Steps p.tables e below (T146.setTop (mkF m 118 #[.val (.ref a1), .val (.int v1), .val (.int (1 : Int32))] [])) _
      refine XS.iinc X146.here hx rfl (hb hby d5_118) rfl (l' := #[.val (.ref a1), .val (.int v1), .val (.int (2 : Int32))]) rfl ?_
      show Steps p.tables e below (T146.setTop (mkF m 121 #[.val (.ref a1), .val (.int v1), .val (.int (2 : Int32))] [])) _
      refine XS.goto X146.here hx rfl (pc0 := 121) (pc' := 78) rfl (hb hby d5_121) (by decide) (by decide) ?_
      show Steps p.tables e below (T146.setTop (mkF m 78 #[.val (.ref a1), .val (.int v1), .val (.int (2 : Int32))] [])) _
      refine XS.iloadN X146.here hx rfl (hb hby d5_78) rfl ?_
      show Steps p.tables e below (T146.setTop (mkF m 79 #[.val (.ref a1), .val (.int v1), .val (.int (2 : Int32))] [(.int (2 : Int32))])) _
      refine XS.aloadN X146.here hx rfl (hb hby d5_79) rfl rfl ?_
      exact kt
    have f150 := (f133.other W146 (Or.inl ne_a1_b107))
    obtain ⟨T151, X151, e151, st151⟩ := getF X146 hx hZ hown (host := "") (Or.inl (hw _ (List.mem_of_getElem? (i := 9) rfl))) Via.refl e146 f150 (g := (mkF m 80 #[.val (.ref a1), .val (.int v1), .val (.int (2 : Int32))] [(.ref a1), (.int (2 : Int32))])) rfl rfl (hb hby d5_80)
    have S152 : ∀ t, Steps p.tables e below (T151.setTop (mkF m 87 #[.val (.ref a1), .val (.int v1), .val (.int (2 : Int32))] [(.ref a1)])) t → Steps p.tables e below (T151.setTop (mkF m 83 #[.val (.ref a1), .val (.int v1), .val (.int (2 : Int32))] [(.int (4 : Int32)), (.int (2 : Int32))])) t := by
      intro t kt
      show Steps p.tables e below (T151.setTop (mkF m 83 #[.val (.ref a1), .val (.int v1), .val (.int (2 : Int32))] [(.int (4 : Int32)), (.int (2 : Int32))])) _
      refine XS.icmpNo X151.here hx rfl (hb hby d5_83) rfl (tlt (by decide)).2.1 ?_
      show Steps p.tables e below (T151.setTop (mkF m 86 #[.val (.ref a1), .val (.int v1), .val (.int (2 : Int32))] [])) _
      refine XS.aloadN X151.here hx rfl (hb hby d5_86) rfl rfl ?_
      exact kt
    have f153 := (f136.other W146 (Or.inl ne_a1_b107))
    obtain ⟨T154, X154, e154, st154⟩ := getF X151 hx hZ hown (host := "") (Or.inl (hw _ (List.mem_of_getElem? (i := 26) rfl))) Via.refl e151 f153 (g := (mkF m 87 #[.val (.ref a1), .val (.int v1), .val (.int (2 : Int32))] [(.ref a1)])) rfl rfl (hb hby d5_87)
    have S155 : ∀ t, Steps p.tables e below (T154.setTop (mkF m 92 #[.val (.ref a1), .val (.int v1), .val (.int (2 : Int32))] [(.ref a1), (.int (2 : Int32)), (.ref b107)])) t → Steps p.tables e below (T154.setTop (mkF m 90 #[.val (.ref a1), .val (.int v1), .val (.int (2 : Int32))] [(.ref b107)])) t := by
      intro t kt
      show Steps p.tables e below (T154.setTop (mkF m 90 #[.val (.ref a1), .val (.int v1), .val (.int (2 : Int32))] [(.ref b107)])) _
      refine XS.iloadN X154.here hx rfl (hb hby d5_90) rfl ?_
      show Steps p.tables e below (T154.setTop (mkF m 91 #[.val (.ref a1), .val (.int v1), .val (.int (2 : Int32))] [(.int (2 : Int32)), (.ref b107)])) _
      refine XS.aloadN X154.here hx rfl (hb hby d5_91) rfl rfl ?_
      exact kt
    have f156 := (f139.other W146 (Or.inl ne_a1_b107))
    obtain ⟨T157, X157, e157, st157⟩ := getF X154 hx hZ hown (host := "") (Or.inl (hw _ (List.mem_of_getElem? (i := 12) rfl))) Via.refl e154 f156 (g := (mkF m 92 #[.val (.ref a1), .val (.int v1), .val (.int (2 : Int32))] [(.ref a1), (.int (2 : Int32)), (.ref b107)])) rfl rfl (hb hby d5_92)
    have S158 : ∀ t, Steps p.tables e below (T157.setTop (mkF m 99 #[.val (.ref a1), .val (.int v1), .val (.int (2 : Int32))] [(.ref a1), (.int (2 : Int32)), (.ref b107)])) t → Steps p.tables e below (T157.setTop (mkF m 95 #[.val (.ref a1), .val (.int v1), .val (.int (2 : Int32))] [(.ref t1), (.int (2 : Int32)), (.ref b107)])) t := by
      intro t kt
      show Steps p.tables e below (T157.setTop (mkF m 95 #[.val (.ref a1), .val (.int v1), .val (.int (2 : Int32))] [(.ref t1), (.int (2 : Int32)), (.ref b107)])) _
      refine XS.ifnullNo X157.here hx rfl (hb hby d5_95) rfl ?_
      show Steps p.tables e below (T157.setTop (mkF m 98 #[.val (.ref a1), .val (.int v1), .val (.int (2 : Int32))] [(.int (2 : Int32)), (.ref b107)])) _
      refine XS.aloadN X157.here hx rfl (hb hby d5_98) rfl rfl ?_
      exact kt
    obtain ⟨T159, X159, e159, st159⟩ := getF X157 hx hZ hown (host := "") (Or.inl (hw _ (List.mem_of_getElem? (i := 12) rfl))) Via.refl e157 f156 (g := (mkF m 99 #[.val (.ref a1), .val (.int v1), .val (.int (2 : Int32))] [(.ref a1), (.int (2 : Int32)), (.ref b107)])) rfl rfl (hb hby d5_99)
    have S160 : ∀ t, Steps p.tables e below (T159.setTop (mkF m 103 #[.val (.ref a1), .val (.int v1), .val (.int (2 : Int32))] [(.int (2 : Int32)), (.ref t1), (.int (2 : Int32)), (.ref b107)])) t → Steps p.tables e below (T159.setTop (mkF m 102 #[.val (.ref a1), .val (.int v1), .val (.int (2 : Int32))] [(.ref t1), (.int (2 : Int32)), (.ref b107)])) t := by
      intro t kt
      show Steps p.tables e below (T159.setTop (mkF m 102 #[.val (.ref a1), .val (.int v1), .val (.int (2 : Int32))] [(.ref t1), (.int (2 : Int32)), (.ref b107)])) _
      refine XS.iloadN X159.here hx rfl (hb hby d5_102) rfl ?_
      exact kt
    have f161 := (f144.other W146 ne_t1_b107)
    have S162 : ∀ t, Steps p.tables e below (T159.setTop (mkF m 117 #[.val (.ref a1), .val (.int v1), .val (.int (2 : Int32))] [(.int ((own_nb (vals 2)) &&& (255 : Int32))), (.int (2 : Int32)), (.ref b107)])) t → Steps p.tables e below (T159.setTop (mkF m 103 #[.val (.ref a1), .val (.int v1), .val (.int (2 : Int32))] [(.int (2 : Int32)), (.ref t1), (.int (2 : Int32)), (.ref b107)])) t := by
      intro t kt
      show Steps p.tables e below (T159.setTop (mkF m 103 #[.val (.ref a1), .val (.int v1), .val (.int (2 : Int32))] [(.int (2 : Int32)), (.ref t1), (.int (2 : Int32)), (.ref b107)])) _
      refine ArF.ldB X159 hx hZ e159 f161 (i := 2) (by decide) (by decide) (v := (own_nb (vals 2))) rfl (g := (mkF m 103 #[.val (.ref a1), .val (.int v1), .val (.int (2 : Int32))] [(.int (2 : Int32)), (.ref t1), (.int (2 : Int32)), (.ref b107)])) rfl rfl (hb hby d5_103) _ ?_
      show Steps p.tables e below (T159.setTop (mkF m 104 #[.val (.ref a1), .val (.int v1), .val (.int (2 : Int32))] [(.int (own_nb (vals 2))), (.int (2 : Int32)), (.ref b107)])) _
      refine XS.sipush X159.here hx rfl (hb hby d5_104) ?_
      show Steps p.tables e below (T159.setTop (mkF m 107 #[.val (.ref a1), .val (.int v1), .val (.int (2 : Int32))] [(.int (255 : Int32)), (.int (own_nb (vals 2))), (.int (2 : Int32)), (.ref b107)])) _
      refine XS.iand X159.here hx rfl (hb hby d5_107) rfl ?_
      show Steps p.tables e below (T159.setTop (mkF m 108 #[.val (.ref a1), .val (.int v1), .val (.int (2 : Int32))] [(.int ((own_nb (vals 2)) &&& (255 : Int32))), (.int (2 : Int32)), (.ref b107)])) _
      refine XS.goto X159.here hx rfl (pc0 := 108) (pc' := 117) rfl (hb hby d5_108) (by decide) (by decide) ?_
      exact kt
    obtain ⟨T163, h163, X163, e163, W163, V163, st163⟩ := ArF.stI X159 hx hZ e159 V146' (i := 2) (by decide) (by decide) (g := (mkF m 117 #[.val (.ref a1), .val (.int v1), .val (.int (2 : Int32))] [(.int ((own_nb (vals 2)) &&& (255 : Int32))), (.int (2 : Int32)), (.ref b107)])) rfl rfl (hb hby d5_117)
    have z164 : n0 ≤ h163.size := Nat.le_trans z147 (Keep.of_wr W163).1
    have N165 := Fr.snoc X163 N148 g_b107
    have V163' := V163.congr (f' := (own_fill vals 3)) (own_fillS (vals := vals) 2 (own_byte_back (hrg 2 (by decide))))
    have S166 : ∀ t, Steps p.tables e below (T163.setTop (mkF m 80 #[.val (.ref a1), .val (.int v1), .val (.int (3 : Int32))] [(.ref a1), (.int (3 : Int32))])) t → Steps p.tables e below (T163.setTop (mkF m 118 #[.val (.ref a1), .val (.int v1), .val (.int (2 : Int32))] [])) t := by
      intro t kt
      show Steps p.tables e below (T163.setTop (mkF m 118 #[.val (.ref a1), .val (.int v1), .val (.int (2 : Int32))] [])) _
      refine XS.iinc X163.here hx rfl (hb hby d5_118) rfl (l' := #[.val (.ref a1), .val (.int v1), .val (.int (3 : Int32))]) rfl ?_
      show Steps p.tables e below (T163.setTop (mkF m 121 #[.val (.ref a1), .val (.int v1), .val (.int (3 : Int32))] [])) _
      refine XS.goto X163.here hx rfl (pc0 := 121) (pc' := 78) rfl (hb hby d5_121) (by decide) (by decide) ?_
      show Steps p.tables e below (T163.setTop (mkF m 78 #[.val (.ref a1), .val (.int v1), .val (.int (3 : Int32))] [])) _
      refine XS.iloadN X163.here hx rfl (hb hby d5_78) rfl ?_
      show Steps p.tables e below (T163.setTop (mkF m 79 #[.val (.ref a1), .val (.int v1), .val (.int (3 : Int32))] [(.int (3 : Int32))])) _
      refine XS.aloadN X163.here hx rfl (hb hby d5_79) rfl rfl ?_
      exact kt
    have f167 := (f150.other W163 (Or.inl ne_a1_b107))
    obtain ⟨T168, X168, e168, st168⟩ := getF X163 hx hZ hown (host := "") (Or.inl (hw _ (List.mem_of_getElem? (i := 9) rfl))) Via.refl e163 f167 (g := (mkF m 80 #[.val (.ref a1), .val (.int v1), .val (.int (3 : Int32))] [(.ref a1), (.int (3 : Int32))])) rfl rfl (hb hby d5_80)
    have S169 : ∀ t, Steps p.tables e below (T168.setTop (mkF m 87 #[.val (.ref a1), .val (.int v1), .val (.int (3 : Int32))] [(.ref a1)])) t → Steps p.tables e below (T168.setTop (mkF m 83 #[.val (.ref a1), .val (.int v1), .val (.int (3 : Int32))] [(.int (4 : Int32)), (.int (3 : Int32))])) t := by
      intro t kt
      show Steps p.tables e below (T168.setTop (mkF m 83 #[.val (.ref a1), .val (.int v1), .val (.int (3 : Int32))] [(.int (4 : Int32)), (.int (3 : Int32))])) _
      refine XS.icmpNo X168.here hx rfl (hb hby d5_83) rfl (tlt (by decide)).2.1 ?_
      show Steps p.tables e below (T168.setTop (mkF m 86 #[.val (.ref a1), .val (.int v1), .val (.int (3 : Int32))] [])) _
      refine XS.aloadN X168.here hx rfl (hb hby d5_86) rfl rfl ?_
      exact kt
    have f170 := (f153.other W163 (Or.inl ne_a1_b107))
    obtain ⟨T171, X171, e171, st171⟩ := getF X168 hx hZ hown (host := "") (Or.inl (hw _ (List.mem_of_getElem? (i := 26) rfl))) Via.refl e168 f170 (g := (mkF m 87 #[.val (.ref a1), .val (.int v1), .val (.int (3 : Int32))] [(.ref a1)])) rfl rfl (hb hby d5_87)
    have S172 : ∀ t, Steps p.tables e below (T171.setTop (mkF m 92 #[.val (.ref a1), .val (.int v1), .val (.int (3 : Int32))] [(.ref a1), (.int (3 : Int32)), (.ref b107)])) t → Steps p.tables e below (T171.setTop (mkF m 90 #[.val (.ref a1), .val (.int v1), .val (.int (3 : Int32))] [(.ref b107)])) t := by
      intro t kt
      show Steps p.tables e below (T171.setTop (mkF m 90 #[.val (.ref a1), .val (.int v1), .val (.int (3 : Int32))] [(.ref b107)])) _
      refine XS.iloadN X171.here hx rfl (hb hby d5_90) rfl ?_
      show Steps p.tables e below (T171.setTop (mkF m 91 #[.val (.ref a1), .val (.int v1), .val (.int (3 : Int32))] [(.int (3 : Int32)), (.ref b107)])) _
      refine XS.aloadN X171.here hx rfl (hb hby d5_91) rfl rfl ?_
      exact kt
    have f173 := (f156.other W163 (Or.inl ne_a1_b107))
    obtain ⟨T174, X174, e174, st174⟩ := getF X171 hx hZ hown (host := "") (Or.inl (hw _ (List.mem_of_getElem? (i := 12) rfl))) Via.refl e171 f173 (g := (mkF m 92 #[.val (.ref a1), .val (.int v1), .val (.int (3 : Int32))] [(.ref a1), (.int (3 : Int32)), (.ref b107)])) rfl rfl (hb hby d5_92)
    have S175 : ∀ t, Steps p.tables e below (T174.setTop (mkF m 99 #[.val (.ref a1), .val (.int v1), .val (.int (3 : Int32))] [(.ref a1), (.int (3 : Int32)), (.ref b107)])) t → Steps p.tables e below (T174.setTop (mkF m 95 #[.val (.ref a1), .val (.int v1), .val (.int (3 : Int32))] [(.ref t1), (.int (3 : Int32)), (.ref b107)])) t := by
      intro t kt
      show Steps p.tables e below (T174.setTop (mkF m 95 #[.val (.ref a1), .val (.int v1), .val (.int (3 : Int32))] [(.ref t1), (.int (3 : Int32)), (.ref b107)])) _
      refine XS.ifnullNo X174.here hx rfl (hb hby d5_95) rfl ?_
      show Steps p.tables e below (T174.setTop (mkF m 98 #[.val (.ref a1), .val (.int v1), .val (.int (3 : Int32))] [(.int (3 : Int32)), (.ref b107)])) _
      refine XS.aloadN X174.here hx rfl (hb hby d5_98) rfl rfl ?_
      exact kt
    obtain ⟨T176, X176, e176, st176⟩ := getF X174 hx hZ hown (host := "") (Or.inl (hw _ (List.mem_of_getElem? (i := 12) rfl))) Via.refl e174 f173 (g := (mkF m 99 #[.val (.ref a1), .val (.int v1), .val (.int (3 : Int32))] [(.ref a1), (.int (3 : Int32)), (.ref b107)])) rfl rfl (hb hby d5_99)
    have S177 : ∀ t, Steps p.tables e below (T176.setTop (mkF m 103 #[.val (.ref a1), .val (.int v1), .val (.int (3 : Int32))] [(.int (3 : Int32)), (.ref t1), (.int (3 : Int32)), (.ref b107)])) t → Steps p.tables e below (T176.setTop (mkF m 102 #[.val (.ref a1), .val (.int v1), .val (.int (3 : Int32))] [(.ref t1), (.int (3 : Int32)), (.ref b107)])) t := by
      intro t kt
      show Steps p.tables e below (T176.setTop (mkF m 102 #[.val (.ref a1), .val (.int v1), .val (.int (3 : Int32))] [(.ref t1), (.int (3 : Int32)), (.ref b107)])) _
      refine XS.iloadN X176.here hx rfl (hb hby d5_102) rfl ?_
      exact kt
    have f178 := (f161.other W163 ne_t1_b107)
    have S179 : ∀ t, Steps p.tables e below (T176.setTop (mkF m 117 #[.val (.ref a1), .val (.int v1), .val (.int (3 : Int32))] [(.int ((own_nb (vals 3)) &&& (255 : Int32))), (.int (3 : Int32)), (.ref b107)])) t → Steps p.tables e below (T176.setTop (mkF m 103 #[.val (.ref a1), .val (.int v1), .val (.int (3 : Int32))] [(.int (3 : Int32)), (.ref t1), (.int (3 : Int32)), (.ref b107)])) t := by
      intro t kt
      show Steps p.tables e below (T176.setTop (mkF m 103 #[.val (.ref a1), .val (.int v1), .val (.int (3 : Int32))] [(.int (3 : Int32)), (.ref t1), (.int (3 : Int32)), (.ref b107)])) _
      refine ArF.ldB X176 hx hZ e176 f178 (i := 3) (by decide) (by decide) (v := (own_nb (vals 3))) rfl (g := (mkF m 103 #[.val (.ref a1), .val (.int v1), .val (.int (3 : Int32))] [(.int (3 : Int32)), (.ref t1), (.int (3 : Int32)), (.ref b107)])) rfl rfl (hb hby d5_103) _ ?_
      show Steps p.tables e below (T176.setTop (mkF m 104 #[.val (.ref a1), .val (.int v1), .val (.int (3 : Int32))] [(.int (own_nb (vals 3))), (.int (3 : Int32)), (.ref b107)])) _
      refine XS.sipush X176.here hx rfl (hb hby d5_104) ?_
      show Steps p.tables e below (T176.setTop (mkF m 107 #[.val (.ref a1), .val (.int v1), .val (.int (3 : Int32))] [(.int (255 : Int32)), (.int (own_nb (vals 3))), (.int (3 : Int32)), (.ref b107)])) _
      refine XS.iand X176.here hx rfl (hb hby d5_107) rfl ?_
      show Steps p.tables e below (T176.setTop (mkF m 108 #[.val (.ref a1), .val (.int v1), .val (.int (3 : Int32))] [(.int ((own_nb (vals 3)) &&& (255 : Int32))), (.int (3 : Int32)), (.ref b107)])) _
      refine XS.goto X176.here hx rfl (pc0 := 108) (pc' := 117) rfl (hb hby d5_108) (by decide) (by decide) ?_
      exact kt
    obtain ⟨T180, h180, X180, e180, W180, V180, st180⟩ := ArF.stI X176 hx hZ e176 V163' (i := 3) (by decide) (by decide) (g := (mkF m 117 #[.val (.ref a1), .val (.int v1), .val (.int (3 : Int32))] [(.int ((own_nb (vals 3)) &&& (255 : Int32))), (.int (3 : Int32)), (.ref b107)])) rfl rfl (hb hby d5_117)
    have z181 : n0 ≤ h180.size := Nat.le_trans z164 (Keep.of_wr W180).1
    have N182 := Fr.snoc X180 N165 g_b107
    have V180' := V180.congr (f' := (own_fill vals 4)) (own_fillS (vals := vals) 3 (own_byte_back (hrg 3 (by decide))))
    have S183 : ∀ t, Steps p.tables e below (T180.setTop (mkF m 80 #[.val (.ref a1), .val (.int v1), .val (.int (4 : Int32))] [(.ref a1), (.int (4 : Int32))])) t → Steps p.tables e below (T180.setTop (mkF m 118 #[.val (.ref a1), .val (.int v1), .val (.int (3 : Int32))] [])) t := by
      intro t kt
      show Steps p.tables e below (T180.setTop (mkF m 118 #[.val (.ref a1), .val (.int v1), .val (.int (3 : Int32))] [])) _
      refine XS.iinc X180.here hx rfl (hb hby d5_118) rfl (l' := #[.val (.ref a1), .val (.int v1), .val (.int (4 : Int32))]) rfl ?_
      show Steps p.tables e below (T180.setTop (mkF m 121 #[.val (.ref a1), .val (.int v1), .val (.int (4 : Int32))] [])) _
      refine XS.goto X180.here hx rfl (pc0 := 121) (pc' := 78) rfl (hb hby d5_121) (by decide) (by decide) ?_
      show Steps p.tables e below (T180.setTop (mkF m 78 #[.val (.ref a1), .val (.int v1), .val (.int (4 : Int32))] [])) _
      refine XS.iloadN X180.here hx rfl (hb hby d5_78) rfl ?_
      show Steps p.tables e below (T180.setTop (mkF m 79 #[.val (.ref a1), .val (.int v1), .val (.int (4 : Int32))] [(.int (4 : Int32))])) _
      refine XS.aloadN X180.here hx rfl (hb hby d5_79) rfl rfl ?_
      exact kt
    have f184 := (f167.other W180 (Or.inl ne_a1_b107))
    obtain ⟨T185, X185, e185, st185⟩ := getF X180 hx hZ hown (host := "") (Or.inl (hw _ (List.mem_of_getElem? (i := 9) rfl))) Via.refl e180 f184 (g := (mkF m 80 #[.val (.ref a1), .val (.int v1), .val (.int (4 : Int32))] [(.ref a1), (.int (4 : Int32))])) rfl rfl (hb hby d5_80)
    have S186 : ∀ t, Steps p.tables e below (T185.setTop (mkF m 126 #[.val (.ref a1), .val (.int v1), .val (.int (4 : Int32))] [.null, (.ref a1)])) t → Steps p.tables e below (T185.setTop (mkF m 83 #[.val (.ref a1), .val (.int v1), .val (.int (4 : Int32))] [(.int (4 : Int32)), (.int (4 : Int32))])) t := by
      intro t kt
      show Steps p.tables e below (T185.setTop (mkF m 83 #[.val (.ref a1), .val (.int v1), .val (.int (4 : Int32))] [(.int (4 : Int32)), (.int (4 : Int32))])) _
      refine XS.icmpYes X185.here hx rfl (pc0 := 83) (pc' := 124) rfl (hb hby d5_83) rfl (flt (by decide)).2.1 (by decide) (by decide) ?_
      show Steps p.tables e below (T185.setTop (mkF m 124 #[.val (.ref a1), .val (.int v1), .val (.int (4 : Int32))] [])) _
      refine XS.aloadN X185.here hx rfl (hb hby d5_124) rfl rfl ?_
      show Steps p.tables e below (T185.setTop (mkF m 125 #[.val (.ref a1), .val (.int v1), .val (.int (4 : Int32))] [(.ref a1)])) _
      refine XS.aconstNull X185.here hx rfl (hb hby d5_125) ?_
      exact kt
    have f187 := (f173.other W180 (Or.inl ne_a1_b107))
    have f188 := (((((f111.wr W112).wr W129).wr W146).wr W163).wr W180)
    obtain ⟨T189, h189, X189, e189, W189, st189⟩ := putF X185 hx hZ hown (host := "") (Or.inl (hw _ (List.mem_of_getElem? (i := 12) rfl))) Via.refl e185 f187 f188 (Or.inl (hw _ (List.mem_of_getElem? (i := 13) rfl))) (hw _ (List.mem_of_getElem? (i := 1) rfl)) (ty := (.array .byte)) (by decide) rfl rfl (g := (mkF m 126 #[.val (.ref a1), .val (.int v1), .val (.int (4 : Int32))] [.null, (.ref a1)])) rfl rfl (hb hby d5_126)
    have z190 : n0 ≤ h189.size := Nat.le_trans z181 (Keep.of_wr W189).1
    have N191 := Fr.snoc X189 N182 g_a1
    have Fw189 := f187.same W189
    have S192 : ∀ t, Steps p.tables e below (T189.setTop (mkF m 131 #[.val (.ref a1), .val (.int v1), .val (.int (4 : Int32))] [.null, (.ref a1)])) t → Steps p.tables e below (T189.setTop (mkF m 129 #[.val (.ref a1), .val (.int v1), .val (.int (4 : Int32))] [])) t := by
      intro t kt
      show Steps p.tables e below (T189.setTop (mkF m 129 #[.val (.ref a1), .val (.int v1), .val (.int (4 : Int32))] [])) _
      refine XS.aloadN X189.here hx rfl (hb hby d5_129) rfl rfl ?_
      show Steps p.tables e below (T189.setTop (mkF m 130 #[.val (.ref a1), .val (.int v1), .val (.int (4 : Int32))] [(.ref a1)])) _
      refine XS.aconstNull X189.here hx rfl (hb hby d5_130) ?_
      exact kt
    have f193 := (((((((F98.ext E107).other W112 (Or.inr (slot_ne (Or.inl (hw _ (List.mem_of_getElem? (i := 25) rfl))) (Or.inl (hw _ (List.mem_of_getElem? (i := 27) rfl))) (by decide) (t := (.array .char)) (t' := (.array .int)) (by decide) (by decide)))).other W129 (Or.inl ne_a1_b107)).other W146 (Or.inl ne_a1_b107)).other W163 (Or.inl ne_a1_b107)).other W180 (Or.inl ne_a1_b107)).other W189 (Or.inr (slot_ne (Or.inl (hw _ (List.mem_of_getElem? (i := 25) rfl))) (Or.inl (hw _ (List.mem_of_getElem? (i := 13) rfl))) (by decide) (t := (.array .char)) (t' := (.array .byte)) (by decide) (by decide))))
    have f194 := (f188.wr W189)
    obtain ⟨T195, h195, X195, e195, W195, st195⟩ := putF X189 hx hZ hown (host := "") (Or.inl (hw _ (List.mem_of_getElem? (i := 24) rfl))) Via.refl e189 f193 f194 (Or.inl (hw _ (List.mem_of_getElem? (i := 25) rfl))) (hw _ (List.mem_of_getElem? (i := 1) rfl)) (ty := (.array .char)) (by decide) rfl rfl (g := (mkF m 131 #[.val (.ref a1), .val (.int v1), .val (.int (4 : Int32))] [.null, (.ref a1)])) rfl rfl (hb hby d5_131)
    have z196 : n0 ≤ h195.size := Nat.le_trans z190 (Keep.of_wr W195).1
    have N197 := Fr.snoc X195 N191 g_a1
    have Fw195 := f193.same W195
    have C198 : ∀ t, Steps p.tables e below (T195.setTop (mkF m 134 #[.val (.ref a1), .val (.int v1), .val (.int (4 : Int32))] [])) t → Steps p.tables e below (s₁.setTop (mkF m 0 #[.val (.ref a1), .val (.int v1), .unset] [])) t := (fun t k => (S101 t (st102 t (S103 t (S105 t (st106 t (st107 t (st112 t (S115 t (st117 t (S118 t (st119 t (S120 t (st122 t (S123 t (st124 t (S125 t (S127 t (st129 t (S132 t (st134 t (S135 t (st137 t (S138 t (st140 t (S141 t (st142 t (S143 t (S145 t (st146 t (S149 t (st151 t (S152 t (st154 t (S155 t (st157 t (S158 t (st159 t (S160 t (S162 t (st163 t (S166 t (st168 t (S169 t (st171 t (S172 t (st174 t (S175 t (st176 t (S177 t (S179 t (st180 t (S183 t (st185 t (S186 t (st189 t (S192 t (st195 t k))))))))))))))))))))))))))))))))))))))))))))))))))))))))))
    obtain ⟨fs, hr, hrun, hended, hW, hsame⟩ := X195.leave (v := none) (fun _ => rfl)
    refine ⟨_, _, pre0 _ (C198 _ ?_), hrun, hended, _, _, rfl, ?_, ⟨_, rfl⟩, hW, hsame.mono (by decide) (by decide)⟩
    · exact X195.returnOut hx Bd.returns (hb hby d5_134) hr
    · show Q_rm_wBI Z a1 v1 t1 vals h0 n0 _ T195.heap _
      rw [e195]
      have f199 := ((V180'.other W189 (Ne.symm ne_a1_b107)).other W195 (Ne.symm ne_a1_b107))
      have V200 := f199.congr (f' := (fun q => (.int (vals q)))) own_fill4
      have f201 := (f194.wr W195)
      have f202 := ((f184.other W189 (Or.inr (slot_ne (Or.inl (hw _ (List.mem_of_getElem? (i := 10) rfl))) (Or.inl (hw _ (List.mem_of_getElem? (i := 13) rfl))) (by decide) (t := .int) (t' := (.array .byte)) (by decide) (by decide)))).other W195 (Or.inr (slot_ne (Or.inl (hw _ (List.mem_of_getElem? (i := 10) rfl))) (Or.inl (hw _ (List.mem_of_getElem? (i := 25) rfl))) (by decide) (t := .int) (t' := (.array .char)) (by decide) (by decide))))
      have f203 := (Fw189.other W195 (Or.inr (slot_ne (Or.inl (hw _ (List.mem_of_getElem? (i := 13) rfl))) (Or.inl (hw _ (List.mem_of_getElem? (i := 25) rfl))) (by decide) (t := (.array .byte)) (t' := (.array .char)) (by decide) (by decide))))
      have f204 := (((f170.other W180 (Or.inl ne_a1_b107)).other W189 (Or.inr (slot_ne (Or.inl (hw _ (List.mem_of_getElem? (i := 27) rfl))) (Or.inl (hw _ (List.mem_of_getElem? (i := 13) rfl))) (by decide) (t := (.array .int)) (t' := (.array .byte)) (by decide) (by decide)))).other W195 (Or.inr (slot_ne (Or.inl (hw _ (List.mem_of_getElem? (i := 27) rfl))) (Or.inl (hw _ (List.mem_of_getElem? (i := 25) rfl))) (by decide) (t := (.array .int)) (t' := (.array .char)) (by decide) (by decide))))
      exact ⟨rfl, N197, z196, ⟨b107, ⟨g_a1, g_b107, ne_a1_b107, f201, f202⟩, f203, Fw195, f204, V200⟩⟩
  · have S205 : ∀ t, Steps p.tables e below (T102.setTop (mkF m 68 #[.val (.ref a1), .val (.int v1), .unset] [(.ref a1), (.ref a1)])) t → Steps p.tables e below (T102.setTop (mkF m 8 #[.val (.ref a1), .val (.int v1), .unset] [(.int v1)])) t := by
      intro t kt
      show Steps p.tables e below (T102.setTop (mkF m 8 #[.val (.ref a1), .val (.int v1), .unset] [(.int v1)])) _
      refine XS.ifNo X102.here hx rfl (hb hby d5_8) rfl ((if0 _ _).trans (flt hc104).1) ?_
      show Steps p.tables e below (T102.setTop (mkF m 11 #[.val (.ref a1), .val (.int v1), .unset] [])) _
      refine XS.iloadN X102.here hx rfl (hb hby d5_11) rfl ?_
      show Steps p.tables e below (T102.setTop (mkF m 12 #[.val (.ref a1), .val (.int v1), .unset] [(.int v1)])) _
      refine X102.ldcInt hx hown (mvT hZ (hw _ (List.mem_of_getElem? (i := 32) rfl))) (g := (mkF m 12 #[.val (.ref a1), .val (.int v1), .unset] [(.int v1)])) rfl (hb hby d5_12) _ ?_
      show Steps p.tables e below (T102.setTop (mkF m 14 #[.val (.ref a1), .val (.int v1), .unset] [(.int (65535 : Int32)), (.int v1)])) _
      refine XS.icmpYes X102.here hx rfl (pc0 := 14) (pc' := 66) rfl (hb hby d5_14) rfl (tlt (hv.resolve_left hc104)).2.2.1 (by decide) (by decide) ?_
      show Steps p.tables e below (T102.setTop (mkF m 66 #[.val (.ref a1), .val (.int v1), .unset] [])) _
      refine XS.aloadN X102.here hx rfl (hb hby d5_66) rfl rfl ?_
      show Steps p.tables e below (T102.setTop (mkF m 67 #[.val (.ref a1), .val (.int v1), .unset] [(.ref a1)])) _
      refine XS.aloadN X102.here hx rfl (hb hby d5_67) rfl rfl ?_
      exact kt
    obtain ⟨T206, X206, e206, st206⟩ := getF X102 hx hZ hown (host := "") (Or.inl (hw _ (List.mem_of_getElem? (i := 9) rfl))) Via.refl e102 F96 (g := (mkF m 68 #[.val (.ref a1), .val (.int v1), .unset] [(.ref a1), (.ref a1)])) rfl rfl (hb hby d5_68)
    obtain ⟨T207, h207, k207, X207, e207, E207, A207, st207⟩ := newP X206 hx hZ (hw _ (List.mem_of_getElem? (i := 33) rfl)) e206 (g := (mkF m 71 #[.val (.ref a1), .val (.int v1), .unset] [(.int (4 : Int32)), (.ref a1)])) rfl (hb hby d5_71) rfl (by decide) (cap := 4) (by decide) (by decide) (by decide) (by decide)
    obtain ⟨b207, g207⟩ : ∃ z, z = h0.size := ⟨_, rfl⟩
    rw [← g207] at A207 st207
    have g_b207 : n0 ≤ b207 := Nat.le_trans Z0 (Nat.le_of_eq g207.symm)
    have K208 := (Keep.refl h0 [a1])
    have sz_b207 : h0.size ≤ b207 := Nat.le_trans K208.1 (Nat.le_of_eq g207.symm)
    have ne_a1_b207 : a1 ≠ b207 := Nat.ne_of_lt (Nat.lt_of_lt_of_le F95.lt (Nat.le_of_eq g207.symm))
    have ne_t1_b207 : t1 ≠ b207 := Nat.ne_of_lt (Nat.lt_of_lt_of_le F100.lt (Nat.le_of_eq g207.symm))
    have z209 : n0 ≤ h207.size := Nat.le_trans Z0 E207.1
    have V207 : ArF Z h207 b207 .int 4 (fun _ => (.int (0 : Int32))) := ArF.new A207 (by decide) rfl
    have f210 := (F99.ext E207)
    have f211 := (F95.ext E207)
    obtain ⟨T212, h212, X212, e212, W212, st212⟩ := putF X207 hx hZ hown (host := "") (Or.inl (hw _ (List.mem_of_getElem? (i := 26) rfl))) Via.refl e207 f210 f211 (Or.inl (hw _ (List.mem_of_getElem? (i := 27) rfl))) (hw _ (List.mem_of_getElem? (i := 1) rfl)) (ty := (.array .int)) (by decide) rfl rfl (g := (mkF m 73 #[.val (.ref a1), .val (.int v1), .unset] [(.ref b207), (.ref a1)])) rfl rfl (hb hby d5_73)
    have z213 : n0 ≤ h212.size := Nat.le_trans z209 (Keep.of_wr W212).1
    have N214 := Fr.snoc X212 N0 g_a1
    have Fw212 := f210.same W212
    have S215 : ∀ t, Steps p.tables e below (T212.setTop (mkF m 80 #[.val (.ref a1), .val (.int v1), .val (.int (0 : Int32))] [(.ref a1), (.int (0 : Int32))])) t → Steps p.tables e below (T212.setTop (mkF m 76 #[.val (.ref a1), .val (.int v1), .unset] [])) t := by
      intro t kt
      show Steps p.tables e below (T212.setTop (mkF m 76 #[.val (.ref a1), .val (.int v1), .unset] [])) _
      refine XS.iconst X212.here hx rfl (hb hby d5_76) ?_
      show Steps p.tables e below (T212.setTop (mkF m 77 #[.val (.ref a1), .val (.int v1), .unset] [(.int (0 : Int32))])) _
      refine XS.istoreN X212.here hx rfl (hb hby d5_77) rfl (l' := #[.val (.ref a1), .val (.int v1), .val (.int (0 : Int32))]) rfl ?_
      show Steps p.tables e below (T212.setTop (mkF m 78 #[.val (.ref a1), .val (.int v1), .val (.int (0 : Int32))] [])) _
      refine XS.iloadN X212.here hx rfl (hb hby d5_78) rfl ?_
      show Steps p.tables e below (T212.setTop (mkF m 79 #[.val (.ref a1), .val (.int v1), .val (.int (0 : Int32))] [(.int (0 : Int32))])) _
      refine XS.aloadN X212.here hx rfl (hb hby d5_79) rfl rfl ?_
      exact kt
    have f216 := ((F96.ext E207).other W212 (Or.inr (slot_ne (Or.inl (hw _ (List.mem_of_getElem? (i := 10) rfl))) (Or.inl (hw _ (List.mem_of_getElem? (i := 27) rfl))) (by decide) (t := .int) (t' := (.array .int)) (by decide) (by decide))))
    obtain ⟨T217, X217, e217, st217⟩ := getF X212 hx hZ hown (host := "") (Or.inl (hw _ (List.mem_of_getElem? (i := 9) rfl))) Via.refl e212 f216 (g := (mkF m 80 #[.val (.ref a1), .val (.int v1), .val (.int (0 : Int32))] [(.ref a1), (.int (0 : Int32))])) rfl rfl (hb hby d5_80)
    have S218 : ∀ t, Steps p.tables e below (T217.setTop (mkF m 87 #[.val (.ref a1), .val (.int v1), .val (.int (0 : Int32))] [(.ref a1)])) t → Steps p.tables e below (T217.setTop (mkF m 83 #[.val (.ref a1), .val (.int v1), .val (.int (0 : Int32))] [(.int (4 : Int32)), (.int (0 : Int32))])) t := by
      intro t kt
      show Steps p.tables e below (T217.setTop (mkF m 83 #[.val (.ref a1), .val (.int v1), .val (.int (0 : Int32))] [(.int (4 : Int32)), (.int (0 : Int32))])) _
      refine XS.icmpNo X217.here hx rfl (hb hby d5_83) rfl (tlt (by decide)).2.1 ?_
      show Steps p.tables e below (T217.setTop (mkF m 86 #[.val (.ref a1), .val (.int v1), .val (.int (0 : Int32))] [])) _
      refine XS.aloadN X217.here hx rfl (hb hby d5_86) rfl rfl ?_
      exact kt
    obtain ⟨T219, X219, e219, st219⟩ := getF X217 hx hZ hown (host := "") (Or.inl (hw _ (List.mem_of_getElem? (i := 26) rfl))) Via.refl e217 Fw212 (g := (mkF m 87 #[.val (.ref a1), .val (.int v1), .val (.int (0 : Int32))] [(.ref a1)])) rfl rfl (hb hby d5_87)
    have S220 : ∀ t, Steps p.tables e below (T219.setTop (mkF m 92 #[.val (.ref a1), .val (.int v1), .val (.int (0 : Int32))] [(.ref a1), (.int (0 : Int32)), (.ref b207)])) t → Steps p.tables e below (T219.setTop (mkF m 90 #[.val (.ref a1), .val (.int v1), .val (.int (0 : Int32))] [(.ref b207)])) t := by
      intro t kt
      show Steps p.tables e below (T219.setTop (mkF m 90 #[.val (.ref a1), .val (.int v1), .val (.int (0 : Int32))] [(.ref b207)])) _
      refine XS.iloadN X219.here hx rfl (hb hby d5_90) rfl ?_
      show Steps p.tables e below (T219.setTop (mkF m 91 #[.val (.ref a1), .val (.int v1), .val (.int (0 : Int32))] [(.int (0 : Int32)), (.ref b207)])) _
      refine XS.aloadN X219.here hx rfl (hb hby d5_91) rfl rfl ?_
      exact kt
    have f221 := ((F97.ext E207).other W212 (Or.inr (slot_ne (Or.inl (hw _ (List.mem_of_getElem? (i := 13) rfl))) (Or.inl (hw _ (List.mem_of_getElem? (i := 27) rfl))) (by decide) (t := (.array .byte)) (t' := (.array .int)) (by decide) (by decide))))
    obtain ⟨T222, X222, e222, st222⟩ := getF X219 hx hZ hown (host := "") (Or.inl (hw _ (List.mem_of_getElem? (i := 12) rfl))) Via.refl e219 f221 (g := (mkF m 92 #[.val (.ref a1), .val (.int v1), .val (.int (0 : Int32))] [(.ref a1), (.int (0 : Int32)), (.ref b207)])) rfl rfl (hb hby d5_92)
    have S223 : ∀ t, Steps p.tables e below (T222.setTop (mkF m 99 #[.val (.ref a1), .val (.int v1), .val (.int (0 : Int32))] [(.ref a1), (.int (0 : Int32)), (.ref b207)])) t → Steps p.tables e below (T222.setTop (mkF m 95 #[.val (.ref a1), .val (.int v1), .val (.int (0 : Int32))] [(.ref t1), (.int (0 : Int32)), (.ref b207)])) t := by
      intro t kt
      show Steps p.tables e below (T222.setTop (mkF m 95 #[.val (.ref a1), .val (.int v1), .val (.int (0 : Int32))] [(.ref t1), (.int (0 : Int32)), (.ref b207)])) _
      refine XS.ifnullNo X222.here hx rfl (hb hby d5_95) rfl ?_
      show Steps p.tables e below (T222.setTop (mkF m 98 #[.val (.ref a1), .val (.int v1), .val (.int (0 : Int32))] [(.int (0 : Int32)), (.ref b207)])) _
      refine XS.aloadN X222.here hx rfl (hb hby d5_98) rfl rfl ?_
      exact kt
    obtain ⟨T224, X224, e224, st224⟩ := getF X222 hx hZ hown (host := "") (Or.inl (hw _ (List.mem_of_getElem? (i := 12) rfl))) Via.refl e222 f221 (g := (mkF m 99 #[.val (.ref a1), .val (.int v1), .val (.int (0 : Int32))] [(.ref a1), (.int (0 : Int32)), (.ref b207)])) rfl rfl (hb hby d5_99)
    have S225 : ∀ t, Steps p.tables e below (T224.setTop (mkF m 103 #[.val (.ref a1), .val (.int v1), .val (.int (0 : Int32))] [(.int (0 : Int32)), (.ref t1), (.int (0 : Int32)), (.ref b207)])) t → Steps p.tables e below (T224.setTop (mkF m 102 #[.val (.ref a1), .val (.int v1), .val (.int (0 : Int32))] [(.ref t1), (.int (0 : Int32)), (.ref b207)])) t := by
      intro t kt
      show Steps p.tables e below (T224.setTop (mkF m 102 #[.val (.ref a1), .val (.int v1), .val (.int (0 : Int32))] [(.ref t1), (.int (0 : Int32)), (.ref b207)])) _
      refine XS.iloadN X224.here hx rfl (hb hby d5_102) rfl ?_
      exact kt
    have f226 := ((F100.ext E207).other W212 (Ne.symm ne_a1_t1))
    have S227 : ∀ t, Steps p.tables e below (T224.setTop (mkF m 117 #[.val (.ref a1), .val (.int v1), .val (.int (0 : Int32))] [(.int ((own_nb (vals 0)) &&& (255 : Int32))), (.int (0 : Int32)), (.ref b207)])) t → Steps p.tables e below (T224.setTop (mkF m 103 #[.val (.ref a1), .val (.int v1), .val (.int (0 : Int32))] [(.int (0 : Int32)), (.ref t1), (.int (0 : Int32)), (.ref b207)])) t := by
      intro t kt
      show Steps p.tables e below (T224.setTop (mkF m 103 #[.val (.ref a1), .val (.int v1), .val (.int (0 : Int32))] [(.int (0 : Int32)), (.ref t1), (.int (0 : Int32)), (.ref b207)])) _
      refine ArF.ldB X224 hx hZ e224 f226 (i := 0) (by decide) (by decide) (v := (own_nb (vals 0))) rfl (g := (mkF m 103 #[.val (.ref a1), .val (.int v1), .val (.int (0 : Int32))] [(.int (0 : Int32)), (.ref t1), (.int (0 : Int32)), (.ref b207)])) rfl rfl (hb hby d5_103) _ ?_
      show Steps p.tables e below (T224.setTop (mkF m 104 #[.val (.ref a1), .val (.int v1), .val (.int (0 : Int32))] [(.int (own_nb (vals 0))), (.int (0 : Int32)), (.ref b207)])) _
      refine XS.sipush X224.here hx rfl (hb hby d5_104) ?_
      show Steps p.tables e below (T224.setTop (mkF m 107 #[.val (.ref a1), .val (.int v1), .val (.int (0 : Int32))] [(.int (255 : Int32)), (.int (own_nb (vals 0))), (.int (0 : Int32)), (.ref b207)])) _
      refine XS.iand X224.here hx rfl (hb hby d5_107) rfl ?_
      show Steps p.tables e below (T224.setTop (mkF m 108 #[.val (.ref a1), .val (.int v1), .val (.int (0 : Int32))] [(.int ((own_nb (vals 0)) &&& (255 : Int32))), (.int (0 : Int32)), (.ref b207)])) _
      refine XS.goto X224.here hx rfl (pc0 := 108) (pc' := 117) rfl (hb hby d5_108) (by decide) (by decide) ?_
      exact kt
    have f228 := (V207.other W212 (Ne.symm ne_a1_b207))
    obtain ⟨T229, h229, X229, e229, W229, V229, st229⟩ := ArF.stI X224 hx hZ e224 f228 (i := 0) (by decide) (by decide) (g := (mkF m 117 #[.val (.ref a1), .val (.int v1), .val (.int (0 : Int32))] [(.int ((own_nb (vals 0)) &&& (255 : Int32))), (.int (0 : Int32)), (.ref b207)])) rfl rfl (hb hby d5_117)
    have z230 : n0 ≤ h229.size := Nat.le_trans z213 (Keep.of_wr W229).1
    have N231 := Fr.snoc X229 N214 g_b207
    have V229' := V229.congr (f' := (own_fill vals 1)) (own_fill0 (vals := vals) (own_byte_back (hrg 0 (by decide))))
    have S232 : ∀ t, Steps p.tables e below (T229.setTop (mkF m 80 #[.val (.ref a1), .val (.int v1), .val (.int (1 : Int32))] [(.ref a1), (.int (1 : Int32))])) t → Steps p.tables e below (T229.setTop (mkF m 118 #[.val (.ref a1), .val (.int v1), .val (.int (0 : Int32))] [])) t := by
      intro t kt
      show Steps p.tables e below (T229.setTop (mkF m 118 #[.val (.ref a1), .val (.int v1), .val (.int (0 : Int32))] [])) _
      refine XS.iinc X229.here hx rfl (hb hby d5_118) rfl (l' := #[.val (.ref a1), .val (.int v1), .val (.int (1 : Int32))]) rfl ?_
      show Steps p.tables e below (T229.setTop (mkF m 121 #[.val (.ref a1), .val (.int v1), .val (.int (1 : Int32))] [])) _
      refine XS.goto X229.here hx rfl (pc0 := 121) (pc' := 78) rfl (hb hby d5_121) (by decide) (by decide) ?_
      show Steps p.tables e below (T229.setTop (mkF m 78 #[.val (.ref a1), .val (.int v1), .val (.int (1 : Int32))] [])) _
      refine XS.iloadN X229.here hx rfl (hb hby d5_78) rfl ?_
      show Steps p.tables e below (T229.setTop (mkF m 79 #[.val (.ref a1), .val (.int v1), .val (.int (1 : Int32))] [(.int (1 : Int32))])) _
      refine XS.aloadN X229.here hx rfl (hb hby d5_79) rfl rfl ?_
      exact kt
    have f233 := (f216.other W229 (Or.inl ne_a1_b207))
    obtain ⟨T234, X234, e234, st234⟩ := getF X229 hx hZ hown (host := "") (Or.inl (hw _ (List.mem_of_getElem? (i := 9) rfl))) Via.refl e229 f233 (g := (mkF m 80 #[.val (.ref a1), .val (.int v1), .val (.int (1 : Int32))] [(.ref a1), (.int (1 : Int32))])) rfl rfl (hb hby d5_80)
    have S235 : ∀ t, Steps p.tables e below (T234.setTop (mkF m 87 #[.val (.ref a1), .val (.int v1), .val (.int (1 : Int32))] [(.ref a1)])) t → Steps p.tables e below (T234.setTop (mkF m 83 #[.val (.ref a1), .val (.int v1), .val (.int (1 : Int32))] [(.int (4 : Int32)), (.int (1 : Int32))])) t := by
      intro t kt
      show Steps p.tables e below (T234.setTop (mkF m 83 #[.val (.ref a1), .val (.int v1), .val (.int (1 : Int32))] [(.int (4 : Int32)), (.int (1 : Int32))])) _
      refine XS.icmpNo X234.here hx rfl (hb hby d5_83) rfl (tlt (by decide)).2.1 ?_
      show Steps p.tables e below (T234.setTop (mkF m 86 #[.val (.ref a1), .val (.int v1), .val (.int (1 : Int32))] [])) _
      refine XS.aloadN X234.here hx rfl (hb hby d5_86) rfl rfl ?_
      exact kt
    have f236 := (Fw212.other W229 (Or.inl ne_a1_b207))
    obtain ⟨T237, X237, e237, st237⟩ := getF X234 hx hZ hown (host := "") (Or.inl (hw _ (List.mem_of_getElem? (i := 26) rfl))) Via.refl e234 f236 (g := (mkF m 87 #[.val (.ref a1), .val (.int v1), .val (.int (1 : Int32))] [(.ref a1)])) rfl rfl (hb hby d5_87)
    have S238 : ∀ t, Steps p.tables e below (T237.setTop (mkF m 92 #[.val (.ref a1), .val (.int v1), .val (.int (1 : Int32))] [(.ref a1), (.int (1 : Int32)), (.ref b207)])) t → Steps p.tables e below (T237.setTop (mkF m 90 #[.val (.ref a1), .val (.int v1), .val (.int (1 : Int32))] [(.ref b207)])) t := by
      intro t kt
      show Steps p.tables e below (T237.setTop (mkF m 90 #[.val (.ref a1), .val (.int v1), .val (.int (1 : Int32))] [(.ref b207)])) _
      refine XS.iloadN X237.here hx rfl (hb hby d5_90) rfl ?_
      show Steps p.tables e below (T237.setTop (mkF m 91 #[.val (.ref a1), .val (.int v1), .val (.int (1 : Int32))] [(.int (1 : Int32)), (.ref b207)])) _
      refine XS.aloadN X237.here hx rfl (hb hby d5_91) rfl rfl ?_
      exact kt
    have f239 := (f221.other W229 (Or.inl ne_a1_b207))
    obtain ⟨T240, X240, e240, st240⟩ := getF X237 hx hZ hown (host := "") (Or.inl (hw _ (List.mem_of_getElem? (i := 12) rfl))) Via.refl e237 f239 (g := (mkF m 92 #[.val (.ref a1), .val (.int v1), .val (.int (1 : Int32))] [(.ref a1), (.int (1 : Int32)), (.ref b207)])) rfl rfl (hb hby d5_92)
    have S241 : ∀ t, Steps p.tables e below (T240.setTop (mkF m 99 #[.val (.ref a1), .val (.int v1), .val (.int (1 : Int32))] [(.ref a1), (.int (1 : Int32)), (.ref b207)])) t → Steps p.tables e below (T240.setTop (mkF m 95 #[.val (.ref a1), .val (.int v1), .val (.int (1 : Int32))] [(.ref t1), (.int (1 : Int32)), (.ref b207)])) t := by
      intro t kt
      show Steps p.tables e below (T240.setTop (mkF m 95 #[.val (.ref a1), .val (.int v1), .val (.int (1 : Int32))] [(.ref t1), (.int (1 : Int32)), (.ref b207)])) _
      refine XS.ifnullNo X240.here hx rfl (hb hby d5_95) rfl ?_
      show Steps p.tables e below (T240.setTop (mkF m 98 #[.val (.ref a1), .val (.int v1), .val (.int (1 : Int32))] [(.int (1 : Int32)), (.ref b207)])) _
      refine XS.aloadN X240.here hx rfl (hb hby d5_98) rfl rfl ?_
      exact kt
    obtain ⟨T242, X242, e242, st242⟩ := getF X240 hx hZ hown (host := "") (Or.inl (hw _ (List.mem_of_getElem? (i := 12) rfl))) Via.refl e240 f239 (g := (mkF m 99 #[.val (.ref a1), .val (.int v1), .val (.int (1 : Int32))] [(.ref a1), (.int (1 : Int32)), (.ref b207)])) rfl rfl (hb hby d5_99)
    have S243 : ∀ t, Steps p.tables e below (T242.setTop (mkF m 103 #[.val (.ref a1), .val (.int v1), .val (.int (1 : Int32))] [(.int (1 : Int32)), (.ref t1), (.int (1 : Int32)), (.ref b207)])) t → Steps p.tables e below (T242.setTop (mkF m 102 #[.val (.ref a1), .val (.int v1), .val (.int (1 : Int32))] [(.ref t1), (.int (1 : Int32)), (.ref b207)])) t := by
      intro t kt
      show Steps p.tables e below (T242.setTop (mkF m 102 #[.val (.ref a1), .val (.int v1), .val (.int (1 : Int32))] [(.ref t1), (.int (1 : Int32)), (.ref b207)])) _
      refine XS.iloadN X242.here hx rfl (hb hby d5_102) rfl ?_
      exact kt
    have f244 := (f226.other W229 ne_t1_b207)
    have S245 : ∀ t, Steps p.tables e below (T242.setTop (mkF m 117 #[.val (.ref a1), .val (.int v1), .val (.int (1 : Int32))] [(.int ((own_nb (vals 1)) &&& (255 : Int32))), (.int (1 : Int32)), (.ref b207)])) t → Steps p.tables e below (T242.setTop (mkF m 103 #[.val (.ref a1), .val (.int v1), .val (.int (1 : Int32))] [(.int (1 : Int32)), (.ref t1), (.int (1 : Int32)), (.ref b207)])) t := by
      intro t kt
      show Steps p.tables e below (T242.setTop (mkF m 103 #[.val (.ref a1), .val (.int v1), .val (.int (1 : Int32))] [(.int (1 : Int32)), (.ref t1), (.int (1 : Int32)), (.ref b207)])) _
      refine ArF.ldB X242 hx hZ e242 f244 (i := 1) (by decide) (by decide) (v := (own_nb (vals 1))) rfl (g := (mkF m 103 #[.val (.ref a1), .val (.int v1), .val (.int (1 : Int32))] [(.int (1 : Int32)), (.ref t1), (.int (1 : Int32)), (.ref b207)])) rfl rfl (hb hby d5_103) _ ?_
      show Steps p.tables e below (T242.setTop (mkF m 104 #[.val (.ref a1), .val (.int v1), .val (.int (1 : Int32))] [(.int (own_nb (vals 1))), (.int (1 : Int32)), (.ref b207)])) _
      refine XS.sipush X242.here hx rfl (hb hby d5_104) ?_
      show Steps p.tables e below (T242.setTop (mkF m 107 #[.val (.ref a1), .val (.int v1), .val (.int (1 : Int32))] [(.int (255 : Int32)), (.int (own_nb (vals 1))), (.int (1 : Int32)), (.ref b207)])) _
      refine XS.iand X242.here hx rfl (hb hby d5_107) rfl ?_
      show Steps p.tables e below (T242.setTop (mkF m 108 #[.val (.ref a1), .val (.int v1), .val (.int (1 : Int32))] [(.int ((own_nb (vals 1)) &&& (255 : Int32))), (.int (1 : Int32)), (.ref b207)])) _
      refine XS.goto X242.here hx rfl (pc0 := 108) (pc' := 117) rfl (hb hby d5_108) (by decide) (by decide) ?_
      exact kt
    obtain ⟨T246, h246, X246, e246, W246, V246, st246⟩ := ArF.stI X242 hx hZ e242 V229' (i := 1) (by decide) (by decide) (g := (mkF m 117 #[.val (.ref a1), .val (.int v1), .val (.int (1 : Int32))] [(.int ((own_nb (vals 1)) &&& (255 : Int32))), (.int (1 : Int32)), (.ref b207)])) rfl rfl (hb hby d5_117)
    have z247 : n0 ≤ h246.size := Nat.le_trans z230 (Keep.of_wr W246).1
    have N248 := Fr.snoc X246 N231 g_b207
    have V246' := V246.congr (f' := (own_fill vals 2)) (own_fillS (vals := vals) 1 (own_byte_back (hrg 1 (by decide))))
    have S249 : ∀ t, Steps p.tables e below (T246.setTop (mkF m 80 #[.val (.ref a1), .val (.int v1), .val (.int (2 : Int32))] [(.ref a1), (.int (2 : Int32))])) t → Steps p.tables e below (T246.setTop (mkF m 118 #[.val (.ref a1), .val (.int v1), .val (.int (1 : Int32))] [])) t := by
      intro t kt
      show Steps p.tables e below (T246.setTop (mkF m 118 #[.val (.ref a1), .val (.int v1), .val (.int (1 : Int32))] [])) _
      refine XS.iinc X246.here hx rfl (hb hby d5_118) rfl (l' := #[.val (.ref a1), .val (.int v1), .val (.int (2 : Int32))]) rfl ?_
      show Steps p.tables e below (T246.setTop (mkF m 121 #[.val (.ref a1), .val (.int v1), .val (.int (2 : Int32))] [])) _
      refine XS.goto X246.here hx rfl (pc0 := 121) (pc' := 78) rfl (hb hby d5_121) (by decide) (by decide) ?_
      show Steps p.tables e below (T246.setTop (mkF m 78 #[.val (.ref a1), .val (.int v1), .val (.int (2 : Int32))] [])) _
      refine XS.iloadN X246.here hx rfl (hb hby d5_78) rfl ?_
      show Steps p.tables e below (T246.setTop (mkF m 79 #[.val (.ref a1), .val (.int v1), .val (.int (2 : Int32))] [(.int (2 : Int32))])) _
      refine XS.aloadN X246.here hx rfl (hb hby d5_79) rfl rfl ?_
      exact kt
    have f250 := (f233.other W246 (Or.inl ne_a1_b207))
    obtain ⟨T251, X251, e251, st251⟩ := getF X246 hx hZ hown (host := "") (Or.inl (hw _ (List.mem_of_getElem? (i := 9) rfl))) Via.refl e246 f250 (g := (mkF m 80 #[.val (.ref a1), .val (.int v1), .val (.int (2 : Int32))] [(.ref a1), (.int (2 : Int32))])) rfl rfl (hb hby d5_80)
    have S252 : ∀ t, Steps p.tables e below (T251.setTop (mkF m 87 #[.val (.ref a1), .val (.int v1), .val (.int (2 : Int32))] [(.ref a1)])) t → Steps p.tables e below (T251.setTop (mkF m 83 #[.val (.ref a1), .val (.int v1), .val (.int (2 : Int32))] [(.int (4 : Int32)), (.int (2 : Int32))])) t := by
      intro t kt
      show Steps p.tables e below (T251.setTop (mkF m 83 #[.val (.ref a1), .val (.int v1), .val (.int (2 : Int32))] [(.int (4 : Int32)), (.int (2 : Int32))])) _
      refine XS.icmpNo X251.here hx rfl (hb hby d5_83) rfl (tlt (by decide)).2.1 ?_
      show Steps p.tables e below (T251.setTop (mkF m 86 #[.val (.ref a1), .val (.int v1), .val (.int (2 : Int32))] [])) _
      refine XS.aloadN X251.here hx rfl (hb hby d5_86) rfl rfl ?_
      exact kt
    have f253 := (f236.other W246 (Or.inl ne_a1_b207))
    obtain ⟨T254, X254, e254, st254⟩ := getF X251 hx hZ hown (host := "") (Or.inl (hw _ (List.mem_of_getElem? (i := 26) rfl))) Via.refl e251 f253 (g := (mkF m 87 #[.val (.ref a1), .val (.int v1), .val (.int (2 : Int32))] [(.ref a1)])) rfl rfl (hb hby d5_87)
    have S255 : ∀ t, Steps p.tables e below (T254.setTop (mkF m 92 #[.val (.ref a1), .val (.int v1), .val (.int (2 : Int32))] [(.ref a1), (.int (2 : Int32)), (.ref b207)])) t → Steps p.tables e below (T254.setTop (mkF m 90 #[.val (.ref a1), .val (.int v1), .val (.int (2 : Int32))] [(.ref b207)])) t := by
      intro t kt
      show Steps p.tables e below (T254.setTop (mkF m 90 #[.val (.ref a1), .val (.int v1), .val (.int (2 : Int32))] [(.ref b207)])) _
      refine XS.iloadN X254.here hx rfl (hb hby d5_90) rfl ?_
      show Steps p.tables e below (T254.setTop (mkF m 91 #[.val (.ref a1), .val (.int v1), .val (.int (2 : Int32))] [(.int (2 : Int32)), (.ref b207)])) _
      refine XS.aloadN X254.here hx rfl (hb hby d5_91) rfl rfl ?_
      exact kt
    have f256 := (f239.other W246 (Or.inl ne_a1_b207))
    obtain ⟨T257, X257, e257, st257⟩ := getF X254 hx hZ hown (host := "") (Or.inl (hw _ (List.mem_of_getElem? (i := 12) rfl))) Via.refl e254 f256 (g := (mkF m 92 #[.val (.ref a1), .val (.int v1), .val (.int (2 : Int32))] [(.ref a1), (.int (2 : Int32)), (.ref b207)])) rfl rfl (hb hby d5_92)
    have S258 : ∀ t, Steps p.tables e below (T257.setTop (mkF m 99 #[.val (.ref a1), .val (.int v1), .val (.int (2 : Int32))] [(.ref a1), (.int (2 : Int32)), (.ref b207)])) t → Steps p.tables e below (T257.setTop (mkF m 95 #[.val (.ref a1), .val (.int v1), .val (.int (2 : Int32))] [(.ref t1), (.int (2 : Int32)), (.ref b207)])) t := by
      intro t kt
      show Steps p.tables e below (T257.setTop (mkF m 95 #[.val (.ref a1), .val (.int v1), .val (.int (2 : Int32))] [(.ref t1), (.int (2 : Int32)), (.ref b207)])) _
      refine XS.ifnullNo X257.here hx rfl (hb hby d5_95) rfl ?_
      show Steps p.tables e below (T257.setTop (mkF m 98 #[.val (.ref a1), .val (.int v1), .val (.int (2 : Int32))] [(.int (2 : Int32)), (.ref b207)])) _
      refine XS.aloadN X257.here hx rfl (hb hby d5_98) rfl rfl ?_
      exact kt
    obtain ⟨T259, X259, e259, st259⟩ := getF X257 hx hZ hown (host := "") (Or.inl (hw _ (List.mem_of_getElem? (i := 12) rfl))) Via.refl e257 f256 (g := (mkF m 99 #[.val (.ref a1), .val (.int v1), .val (.int (2 : Int32))] [(.ref a1), (.int (2 : Int32)), (.ref b207)])) rfl rfl (hb hby d5_99)
    have S260 : ∀ t, Steps p.tables e below (T259.setTop (mkF m 103 #[.val (.ref a1), .val (.int v1), .val (.int (2 : Int32))] [(.int (2 : Int32)), (.ref t1), (.int (2 : Int32)), (.ref b207)])) t → Steps p.tables e below (T259.setTop (mkF m 102 #[.val (.ref a1), .val (.int v1), .val (.int (2 : Int32))] [(.ref t1), (.int (2 : Int32)), (.ref b207)])) t := by
      intro t kt
      show Steps p.tables e below (T259.setTop (mkF m 102 #[.val (.ref a1), .val (.int v1), .val (.int (2 : Int32))] [(.ref t1), (.int (2 : Int32)), (.ref b207)])) _
      refine XS.iloadN X259.here hx rfl (hb hby d5_102) rfl ?_
      exact kt
    have f261 := (f244.other W246 ne_t1_b207)
    have S262 : ∀ t, Steps p.tables e below (T259.setTop (mkF m 117 #[.val (.ref a1), .val (.int v1), .val (.int (2 : Int32))] [(.int ((own_nb (vals 2)) &&& (255 : Int32))), (.int (2 : Int32)), (.ref b207)])) t → Steps p.tables e below (T259.setTop (mkF m 103 #[.val (.ref a1), .val (.int v1), .val (.int (2 : Int32))] [(.int (2 : Int32)), (.ref t1), (.int (2 : Int32)), (.ref b207)])) t := by
      intro t kt
      show Steps p.tables e below (T259.setTop (mkF m 103 #[.val (.ref a1), .val (.int v1), .val (.int (2 : Int32))] [(.int (2 : Int32)), (.ref t1), (.int (2 : Int32)), (.ref b207)])) _
      refine ArF.ldB X259 hx hZ e259 f261 (i := 2) (by decide) (by decide) (v := (own_nb (vals 2))) rfl (g := (mkF m 103 #[.val (.ref a1), .val (.int v1), .val (.int (2 : Int32))] [(.int (2 : Int32)), (.ref t1), (.int (2 : Int32)), (.ref b207)])) rfl rfl (hb hby d5_103) _ ?_
      show Steps p.tables e below (T259.setTop (mkF m 104 #[.val (.ref a1), .val (.int v1), .val (.int (2 : Int32))] [(.int (own_nb (vals 2))), (.int (2 : Int32)), (.ref b207)])) _
      refine XS.sipush X259.here hx rfl (hb hby d5_104) ?_
      show Steps p.tables e below (T259.setTop (mkF m 107 #[.val (.ref a1), .val (.int v1), .val (.int (2 : Int32))] [(.int (255 : Int32)), (.int (own_nb (vals 2))), (.int (2 : Int32)), (.ref b207)])) _
      refine XS.iand X259.here hx rfl (hb hby d5_107) rfl ?_
      show Steps p.tables e below (T259.setTop (mkF m 108 #[.val (.ref a1), .val (.int v1), .val (.int (2 : Int32))] [(.int ((own_nb (vals 2)) &&& (255 : Int32))), (.int (2 : Int32)), (.ref b207)])) _
      refine XS.goto X259.here hx rfl (pc0 := 108) (pc' := 117) rfl (hb hby d5_108) (by decide) (by decide) ?_
      exact kt
    obtain ⟨T263, h263, X263, e263, W263, V263, st263⟩ := ArF.stI X259 hx hZ e259 V246' (i := 2) (by decide) (by decide) (g := (mkF m 117 #[.val (.ref a1), .val (.int v1), .val (.int (2 : Int32))] [(.int ((own_nb (vals 2)) &&& (255 : Int32))), (.int (2 : Int32)), (.ref b207)])) rfl rfl (hb hby d5_117)
    have z264 : n0 ≤ h263.size := Nat.le_trans z247 (Keep.of_wr W263).1
    have N265 := Fr.snoc X263 N248 g_b207
    have V263' := V263.congr (f' := (own_fill vals 3)) (own_fillS (vals := vals) 2 (own_byte_back (hrg 2 (by decide))))
    have S266 : ∀ t, Steps p.tables e below (T263.setTop (mkF m 80 #[.val (.ref a1), .val (.int v1), .val (.int (3 : Int32))] [(.ref a1), (.int (3 : Int32))])) t → Steps p.tables e below (T263.setTop (mkF m 118 #[.val (.ref a1), .val (.int v1), .val (.int (2 : Int32))] [])) t := by
      intro t kt
      show Steps p.tables e below (T263.setTop (mkF m 118 #[.val (.ref a1), .val (.int v1), .val (.int (2 : Int32))] [])) _
      refine XS.iinc X263.here hx rfl (hb hby d5_118) rfl (l' := #[.val (.ref a1), .val (.int v1), .val (.int (3 : Int32))]) rfl ?_
      show Steps p.tables e below (T263.setTop (mkF m 121 #[.val (.ref a1), .val (.int v1), .val (.int (3 : Int32))] [])) _
      refine XS.goto X263.here hx rfl (pc0 := 121) (pc' := 78) rfl (hb hby d5_121) (by decide) (by decide) ?_
      show Steps p.tables e below (T263.setTop (mkF m 78 #[.val (.ref a1), .val (.int v1), .val (.int (3 : Int32))] [])) _
      refine XS.iloadN X263.here hx rfl (hb hby d5_78) rfl ?_
      show Steps p.tables e below (T263.setTop (mkF m 79 #[.val (.ref a1), .val (.int v1), .val (.int (3 : Int32))] [(.int (3 : Int32))])) _
      refine XS.aloadN X263.here hx rfl (hb hby d5_79) rfl rfl ?_
      exact kt
    have f267 := (f250.other W263 (Or.inl ne_a1_b207))
    obtain ⟨T268, X268, e268, st268⟩ := getF X263 hx hZ hown (host := "") (Or.inl (hw _ (List.mem_of_getElem? (i := 9) rfl))) Via.refl e263 f267 (g := (mkF m 80 #[.val (.ref a1), .val (.int v1), .val (.int (3 : Int32))] [(.ref a1), (.int (3 : Int32))])) rfl rfl (hb hby d5_80)
    have S269 : ∀ t, Steps p.tables e below (T268.setTop (mkF m 87 #[.val (.ref a1), .val (.int v1), .val (.int (3 : Int32))] [(.ref a1)])) t → Steps p.tables e below (T268.setTop (mkF m 83 #[.val (.ref a1), .val (.int v1), .val (.int (3 : Int32))] [(.int (4 : Int32)), (.int (3 : Int32))])) t := by
      intro t kt
      show Steps p.tables e below (T268.setTop (mkF m 83 #[.val (.ref a1), .val (.int v1), .val (.int (3 : Int32))] [(.int (4 : Int32)), (.int (3 : Int32))])) _
      refine XS.icmpNo X268.here hx rfl (hb hby d5_83) rfl (tlt (by decide)).2.1 ?_
      show Steps p.tables e below (T268.setTop (mkF m 86 #[.val (.ref a1), .val (.int v1), .val (.int (3 : Int32))] [])) _
      refine XS.aloadN X268.here hx rfl (hb hby d5_86) rfl rfl ?_
      exact kt
    have f270 := (f253.other W263 (Or.inl ne_a1_b207))
    obtain ⟨T271, X271, e271, st271⟩ := getF X268 hx hZ hown (host := "") (Or.inl (hw _ (List.mem_of_getElem? (i := 26) rfl))) Via.refl e268 f270 (g := (mkF m 87 #[.val (.ref a1), .val (.int v1), .val (.int (3 : Int32))] [(.ref a1)])) rfl rfl (hb hby d5_87)
    have S272 : ∀ t, Steps p.tables e below (T271.setTop (mkF m 92 #[.val (.ref a1), .val (.int v1), .val (.int (3 : Int32))] [(.ref a1), (.int (3 : Int32)), (.ref b207)])) t → Steps p.tables e below (T271.setTop (mkF m 90 #[.val (.ref a1), .val (.int v1), .val (.int (3 : Int32))] [(.ref b207)])) t := by
      intro t kt
      show Steps p.tables e below (T271.setTop (mkF m 90 #[.val (.ref a1), .val (.int v1), .val (.int (3 : Int32))] [(.ref b207)])) _
      refine XS.iloadN X271.here hx rfl (hb hby d5_90) rfl ?_
      show Steps p.tables e below (T271.setTop (mkF m 91 #[.val (.ref a1), .val (.int v1), .val (.int (3 : Int32))] [(.int (3 : Int32)), (.ref b207)])) _
      refine XS.aloadN X271.here hx rfl (hb hby d5_91) rfl rfl ?_
      exact kt
    have f273 := (f256.other W263 (Or.inl ne_a1_b207))
    obtain ⟨T274, X274, e274, st274⟩ := getF X271 hx hZ hown (host := "") (Or.inl (hw _ (List.mem_of_getElem? (i := 12) rfl))) Via.refl e271 f273 (g := (mkF m 92 #[.val (.ref a1), .val (.int v1), .val (.int (3 : Int32))] [(.ref a1), (.int (3 : Int32)), (.ref b207)])) rfl rfl (hb hby d5_92)
    have S275 : ∀ t, Steps p.tables e below (T274.setTop (mkF m 99 #[.val (.ref a1), .val (.int v1), .val (.int (3 : Int32))] [(.ref a1), (.int (3 : Int32)), (.ref b207)])) t → Steps p.tables e below (T274.setTop (mkF m 95 #[.val (.ref a1), .val (.int v1), .val (.int (3 : Int32))] [(.ref t1), (.int (3 : Int32)), (.ref b207)])) t := by
      intro t kt
      show Steps p.tables e below (T274.setTop (mkF m 95 #[.val (.ref a1), .val (.int v1), .val (.int (3 : Int32))] [(.ref t1), (.int (3 : Int32)), (.ref b207)])) _
      refine XS.ifnullNo X274.here hx rfl (hb hby d5_95) rfl ?_
      show Steps p.tables e below (T274.setTop (mkF m 98 #[.val (.ref a1), .val (.int v1), .val (.int (3 : Int32))] [(.int (3 : Int32)), (.ref b207)])) _
      refine XS.aloadN X274.here hx rfl (hb hby d5_98) rfl rfl ?_
      exact kt
    obtain ⟨T276, X276, e276, st276⟩ := getF X274 hx hZ hown (host := "") (Or.inl (hw _ (List.mem_of_getElem? (i := 12) rfl))) Via.refl e274 f273 (g := (mkF m 99 #[.val (.ref a1), .val (.int v1), .val (.int (3 : Int32))] [(.ref a1), (.int (3 : Int32)), (.ref b207)])) rfl rfl (hb hby d5_99)
    have S277 : ∀ t, Steps p.tables e below (T276.setTop (mkF m 103 #[.val (.ref a1), .val (.int v1), .val (.int (3 : Int32))] [(.int (3 : Int32)), (.ref t1), (.int (3 : Int32)), (.ref b207)])) t → Steps p.tables e below (T276.setTop (mkF m 102 #[.val (.ref a1), .val (.int v1), .val (.int (3 : Int32))] [(.ref t1), (.int (3 : Int32)), (.ref b207)])) t := by
      intro t kt
      show Steps p.tables e below (T276.setTop (mkF m 102 #[.val (.ref a1), .val (.int v1), .val (.int (3 : Int32))] [(.ref t1), (.int (3 : Int32)), (.ref b207)])) _
      refine XS.iloadN X276.here hx rfl (hb hby d5_102) rfl ?_
      exact kt
    have f278 := (f261.other W263 ne_t1_b207)
    have S279 : ∀ t, Steps p.tables e below (T276.setTop (mkF m 117 #[.val (.ref a1), .val (.int v1), .val (.int (3 : Int32))] [(.int ((own_nb (vals 3)) &&& (255 : Int32))), (.int (3 : Int32)), (.ref b207)])) t → Steps p.tables e below (T276.setTop (mkF m 103 #[.val (.ref a1), .val (.int v1), .val (.int (3 : Int32))] [(.int (3 : Int32)), (.ref t1), (.int (3 : Int32)), (.ref b207)])) t := by
      intro t kt
      show Steps p.tables e below (T276.setTop (mkF m 103 #[.val (.ref a1), .val (.int v1), .val (.int (3 : Int32))] [(.int (3 : Int32)), (.ref t1), (.int (3 : Int32)), (.ref b207)])) _
      refine ArF.ldB X276 hx hZ e276 f278 (i := 3) (by decide) (by decide) (v := (own_nb (vals 3))) rfl (g := (mkF m 103 #[.val (.ref a1), .val (.int v1), .val (.int (3 : Int32))] [(.int (3 : Int32)), (.ref t1), (.int (3 : Int32)), (.ref b207)])) rfl rfl (hb hby d5_103) _ ?_
      show Steps p.tables e below (T276.setTop (mkF m 104 #[.val (.ref a1), .val (.int v1), .val (.int (3 : Int32))] [(.int (own_nb (vals 3))), (.int (3 : Int32)), (.ref b207)])) _
      refine XS.sipush X276.here hx rfl (hb hby d5_104) ?_
      show Steps p.tables e below (T276.setTop (mkF m 107 #[.val (.ref a1), .val (.int v1), .val (.int (3 : Int32))] [(.int (255 : Int32)), (.int (own_nb (vals 3))), (.int (3 : Int32)), (.ref b207)])) _
      refine XS.iand X276.here hx rfl (hb hby d5_107) rfl ?_
      show Steps p.tables e below (T276.setTop (mkF m 108 #[.val (.ref a1), .val (.int v1), .val (.int (3 : Int32))] [(.int ((own_nb (vals 3)) &&& (255 : Int32))), (.int (3 : Int32)), (.ref b207)])) _
      refine XS.goto X276.here hx rfl (pc0 := 108) (pc' := 117) rfl (hb hby d5_108) (by decide) (by decide) ?_
      exact kt
    obtain ⟨T280, h280, X280, e280, W280, V280, st280⟩ := ArF.stI X276 hx hZ e276 V263' (i := 3) (by decide) (by decide) (g := (mkF m 117 #[.val (.ref a1), .val (.int v1), .val (.int (3 : Int32))] [(.int ((own_nb (vals 3)) &&& (255 : Int32))), (.int (3 : Int32)), (.ref b207)])) rfl rfl (hb hby d5_117)
    have z281 : n0 ≤ h280.size := Nat.le_trans z264 (Keep.of_wr W280).1
    have N282 := Fr.snoc X280 N265 g_b207
    have V280' := V280.congr (f' := (own_fill vals 4)) (own_fillS (vals := vals) 3 (own_byte_back (hrg 3 (by decide))))
    have S283 : ∀ t, Steps p.tables e below (T280.setTop (mkF m 80 #[.val (.ref a1), .val (.int v1), .val (.int (4 : Int32))] [(.ref a1), (.int (4 : Int32))])) t → Steps p.tables e below (T280.setTop (mkF m 118 #[.val (.ref a1), .val (.int v1), .val (.int (3 : Int32))] [])) t := by
      intro t kt
      show Steps p.tables e below (T280.setTop (mkF m 118 #[.val (.ref a1), .val (.int v1), .val (.int (3 : Int32))] [])) _
      refine XS.iinc X280.here hx rfl (hb hby d5_118) rfl (l' := #[.val (.ref a1), .val (.int v1), .val (.int (4 : Int32))]) rfl ?_
      show Steps p.tables e below (T280.setTop (mkF m 121 #[.val (.ref a1), .val (.int v1), .val (.int (4 : Int32))] [])) _
      refine XS.goto X280.here hx rfl (pc0 := 121) (pc' := 78) rfl (hb hby d5_121) (by decide) (by decide) ?_
      show Steps p.tables e below (T280.setTop (mkF m 78 #[.val (.ref a1), .val (.int v1), .val (.int (4 : Int32))] [])) _
      refine XS.iloadN X280.here hx rfl (hb hby d5_78) rfl ?_
      show Steps p.tables e below (T280.setTop (mkF m 79 #[.val (.ref a1), .val (.int v1), .val (.int (4 : Int32))] [(.int (4 : Int32))])) _
      refine XS.aloadN X280.here hx rfl (hb hby d5_79) rfl rfl ?_
      exact kt
    have f284 := (f267.other W280 (Or.inl ne_a1_b207))
    obtain ⟨T285, X285, e285, st285⟩ := getF X280 hx hZ hown (host := "") (Or.inl (hw _ (List.mem_of_getElem? (i := 9) rfl))) Via.refl e280 f284 (g := (mkF m 80 #[.val (.ref a1), .val (.int v1), .val (.int (4 : Int32))] [(.ref a1), (.int (4 : Int32))])) rfl rfl (hb hby d5_80)
    have S286 : ∀ t, Steps p.tables e below (T285.setTop (mkF m 126 #[.val (.ref a1), .val (.int v1), .val (.int (4 : Int32))] [.null, (.ref a1)])) t → Steps p.tables e below (T285.setTop (mkF m 83 #[.val (.ref a1), .val (.int v1), .val (.int (4 : Int32))] [(.int (4 : Int32)), (.int (4 : Int32))])) t := by
      intro t kt
      show Steps p.tables e below (T285.setTop (mkF m 83 #[.val (.ref a1), .val (.int v1), .val (.int (4 : Int32))] [(.int (4 : Int32)), (.int (4 : Int32))])) _
      refine XS.icmpYes X285.here hx rfl (pc0 := 83) (pc' := 124) rfl (hb hby d5_83) rfl (flt (by decide)).2.1 (by decide) (by decide) ?_
      show Steps p.tables e below (T285.setTop (mkF m 124 #[.val (.ref a1), .val (.int v1), .val (.int (4 : Int32))] [])) _
      refine XS.aloadN X285.here hx rfl (hb hby d5_124) rfl rfl ?_
      show Steps p.tables e below (T285.setTop (mkF m 125 #[.val (.ref a1), .val (.int v1), .val (.int (4 : Int32))] [(.ref a1)])) _
      refine XS.aconstNull X285.here hx rfl (hb hby d5_125) ?_
      exact kt
    have f287 := (f273.other W280 (Or.inl ne_a1_b207))
    have f288 := (((((f211.wr W212).wr W229).wr W246).wr W263).wr W280)
    obtain ⟨T289, h289, X289, e289, W289, st289⟩ := putF X285 hx hZ hown (host := "") (Or.inl (hw _ (List.mem_of_getElem? (i := 12) rfl))) Via.refl e285 f287 f288 (Or.inl (hw _ (List.mem_of_getElem? (i := 13) rfl))) (hw _ (List.mem_of_getElem? (i := 1) rfl)) (ty := (.array .byte)) (by decide) rfl rfl (g := (mkF m 126 #[.val (.ref a1), .val (.int v1), .val (.int (4 : Int32))] [.null, (.ref a1)])) rfl rfl (hb hby d5_126)
    have z290 : n0 ≤ h289.size := Nat.le_trans z281 (Keep.of_wr W289).1
    have N291 := Fr.snoc X289 N282 g_a1
    have Fw289 := f287.same W289
    have S292 : ∀ t, Steps p.tables e below (T289.setTop (mkF m 131 #[.val (.ref a1), .val (.int v1), .val (.int (4 : Int32))] [.null, (.ref a1)])) t → Steps p.tables e below (T289.setTop (mkF m 129 #[.val (.ref a1), .val (.int v1), .val (.int (4 : Int32))] [])) t := by
      intro t kt
      show Steps p.tables e below (T289.setTop (mkF m 129 #[.val (.ref a1), .val (.int v1), .val (.int (4 : Int32))] [])) _
      refine XS.aloadN X289.here hx rfl (hb hby d5_129) rfl rfl ?_
      show Steps p.tables e below (T289.setTop (mkF m 130 #[.val (.ref a1), .val (.int v1), .val (.int (4 : Int32))] [(.ref a1)])) _
      refine XS.aconstNull X289.here hx rfl (hb hby d5_130) ?_
      exact kt
    have f293 := (((((((F98.ext E207).other W212 (Or.inr (slot_ne (Or.inl (hw _ (List.mem_of_getElem? (i := 25) rfl))) (Or.inl (hw _ (List.mem_of_getElem? (i := 27) rfl))) (by decide) (t := (.array .char)) (t' := (.array .int)) (by decide) (by decide)))).other W229 (Or.inl ne_a1_b207)).other W246 (Or.inl ne_a1_b207)).other W263 (Or.inl ne_a1_b207)).other W280 (Or.inl ne_a1_b207)).other W289 (Or.inr (slot_ne (Or.inl (hw _ (List.mem_of_getElem? (i := 25) rfl))) (Or.inl (hw _ (List.mem_of_getElem? (i := 13) rfl))) (by decide) (t := (.array .char)) (t' := (.array .byte)) (by decide) (by decide))))
    have f294 := (f288.wr W289)
    obtain ⟨T295, h295, X295, e295, W295, st295⟩ := putF X289 hx hZ hown (host := "") (Or.inl (hw _ (List.mem_of_getElem? (i := 24) rfl))) Via.refl e289 f293 f294 (Or.inl (hw _ (List.mem_of_getElem? (i := 25) rfl))) (hw _ (List.mem_of_getElem? (i := 1) rfl)) (ty := (.array .char)) (by decide) rfl rfl (g := (mkF m 131 #[.val (.ref a1), .val (.int v1), .val (.int (4 : Int32))] [.null, (.ref a1)])) rfl rfl (hb hby d5_131)
    have z296 : n0 ≤ h295.size := Nat.le_trans z290 (Keep.of_wr W295).1
    have N297 := Fr.snoc X295 N291 g_a1
    have Fw295 := f293.same W295
    have C298 : ∀ t, Steps p.tables e below (T295.setTop (mkF m 134 #[.val (.ref a1), .val (.int v1), .val (.int (4 : Int32))] [])) t → Steps p.tables e below (s₁.setTop (mkF m 0 #[.val (.ref a1), .val (.int v1), .unset] [])) t := (fun t k => (S101 t (st102 t (S103 t (S205 t (st206 t (st207 t (st212 t (S215 t (st217 t (S218 t (st219 t (S220 t (st222 t (S223 t (st224 t (S225 t (S227 t (st229 t (S232 t (st234 t (S235 t (st237 t (S238 t (st240 t (S241 t (st242 t (S243 t (S245 t (st246 t (S249 t (st251 t (S252 t (st254 t (S255 t (st257 t (S258 t (st259 t (S260 t (S262 t (st263 t (S266 t (st268 t (S269 t (st271 t (S272 t (st274 t (S275 t (st276 t (S277 t (S279 t (st280 t (S283 t (st285 t (S286 t (st289 t (S292 t (st295 t k))))))))))))))))))))))))))))))))))))))))))))))))))))))))))
    obtain ⟨fs, hr, hrun, hended, hW, hsame⟩ := X295.leave (v := none) (fun _ => rfl)
    refine ⟨_, _, pre0 _ (C298 _ ?_), hrun, hended, _, _, rfl, ?_, ⟨_, rfl⟩, hW, hsame.mono (by decide) (by decide)⟩
    · exact X295.returnOut hx Bd.returns (hb hby d5_134) hr
    · show Q_rm_wBI Z a1 v1 t1 vals h0 n0 _ T295.heap _
      rw [e295]
      have f299 := ((V280'.other W289 (Ne.symm ne_a1_b207)).other W295 (Ne.symm ne_a1_b207))
      have V300 := f299.congr (f' := (fun q => (.int (vals q)))) own_fill4
      have f301 := (f294.wr W295)
      have f302 := ((f284.other W289 (Or.inr (slot_ne (Or.inl (hw _ (List.mem_of_getElem? (i := 10) rfl))) (Or.inl (hw _ (List.mem_of_getElem? (i := 13) rfl))) (by decide) (t := .int) (t' := (.array .byte)) (by decide) (by decide)))).other W295 (Or.inr (slot_ne (Or.inl (hw _ (List.mem_of_getElem? (i := 10) rfl))) (Or.inl (hw _ (List.mem_of_getElem? (i := 25) rfl))) (by decide) (t := .int) (t' := (.array .char)) (by decide) (by decide))))
      have f303 := (Fw289.other W295 (Or.inr (slot_ne (Or.inl (hw _ (List.mem_of_getElem? (i := 13) rfl))) (Or.inl (hw _ (List.mem_of_getElem? (i := 25) rfl))) (by decide) (t := (.array .byte)) (t' := (.array .char)) (by decide) (by decide))))
      have f304 := (((f270.other W280 (Or.inl ne_a1_b207)).other W289 (Or.inr (slot_ne (Or.inl (hw _ (List.mem_of_getElem? (i := 27) rfl))) (Or.inl (hw _ (List.mem_of_getElem? (i := 13) rfl))) (by decide) (t := (.array .int)) (t' := (.array .byte)) (by decide) (by decide)))).other W295 (Or.inr (slot_ne (Or.inl (hw _ (List.mem_of_getElem? (i := 27) rfl))) (Or.inl (hw _ (List.mem_of_getElem? (i := 25) rfl))) (by decide) (t := (.array .int)) (t' := (.array .char)) (by decide) (by decide))))
      exact ⟨rfl, N297, z296, ⟨b207, ⟨g_a1, g_b207, ne_a1_b207, f301, f302⟩, f303, Fw295, f304, V300⟩⟩
theorem ef_rm_wCI (m : MethodId) (x0 : Addr) (x1 : Int32) : entryFrame m #[(.ref x0), (.int x1)] 3 = mkF m 0 #[.val (.ref x0), .val (.int x1), .unset] [] := by first | (simp [entryFrame, mkF, argsToLocals, Value.category]; done) | rfl
def Q_rm_wCI (Z : State) (a1 : Addr) (v1 : Int32) (t1 : Addr) (vals : Nat → Int32) (h0 : Heap) (n0 : Nat) (v : Option Value) (h : Heap) (L : List Loc) : Prop := v = none ∧ Fr n0 L ∧ n0 ≤ h.size ∧ ∃ t, own_I Z h n0 a1 t vals
set_option maxRecDepth 65536 in
set_option maxHeartbeats 40000000 in
theorem rm_wCI (l : Launch) (Z : State) (a0 : Array Value) (hw : ∀ d ∈ tables_1, d.before a0 Z = true) (ws : List Jvm.Cond) (a1 : Addr) (v1 : Int32) (t1 : Addr) (vals : Nat → Int32) (h0 : Heap) (n0 : Nat) (Z0 : n0 ≤ h0.size) (F305 : Exa Z h0 a1 "com/example/joinery/joinery/NarrowInts") (F306 : Fld Z h0 a1 "com/example/joinery/joinery/NarrowInts" "capacity" "I" (.int (4 : Int32))) (F307 : Fld Z h0 a1 "com/example/joinery/joinery/NarrowInts" "bytes" "[B" .null) (F308 : Fld Z h0 a1 "com/example/joinery/joinery/NarrowInts" "chars" "[C" (.ref t1)) (F309 : Fld Z h0 a1 "com/example/joinery/joinery/NarrowInts" "ints" "[I" .null) (F310 : ArF Z h0 t1 .char 4 (fun q => (.int (vals q)))) (g_a1 : n0 ≤ a1) (g_t1 : n0 ≤ t1) (ne_a1_t1 : a1 ≠ t1) :
    MetFree l (⟨"com/example/joinery/joinery/NarrowInts", "widenFor", "(I)V"⟩ : MethodName) (head1 (Jvm.Cond.code (⟨"com/example/joinery/joinery/NarrowInts", "widenFor", "(I)V"⟩ : MethodName) prog_31_method_6_code 3 none :: ws) ({ frames := 0, cells := 1, slots := 4, locals := 0 } : Room)) (fun a U => a = #[(.ref a1), (.int v1)] ∧ Z.Warmed39 U.vm ∧ U.heap = h0) (fun _ _ _ _ _ => True) (fun _ U o U' => ∃ v L, o = .returned v ∧ Q_rm_wCI Z a1 v1 t1 vals h0 n0 v U'.heap L ∧ FrameEnd U o U' L ({ frames := 0, cells := 1, slots := 4, locals := 0 } : Room).cells ({ frames := 0, cells := 1, slots := 4, locals := 0 } : Room).slots) := by
  refine MetFree.of_bodySF (plainFor_of_name pn_0) hisR ?_
  intro p e s m args below meth c s₁ Bd hml0 hP hK
  obtain ⟨rfl, hZ, hh⟩ := hP
  have hx := Bd.exec
  have hby := Bd.bytes
  have hml : c.maxLocals = 3 := hml0
  have hown : s.vm.findClass "com/example/joinery/joinery/NarrowInts" = some m.cls := findClass_of_methodNamed Bd.named
  have hnm := (name_of_methodNamed Bd.named Bd.method).1
  have X0 : Stand p l e ({ frames := 0, cells := 1, slots := 4, locals := 0 } : Room) s m #[(.ref a1), (.int v1)] below meth c s₁ [] 0 0 := Stand.of_body Bd
  have e0 : s₁.heap = h0 := by rw [← hh, Bd.state]; rfl
  have N0 := Fr.nil n0
  have pre0 : ∀ t, Steps p.tables e below (s₁.setTop (mkF m 0 #[.val (.ref a1), .val (.int v1), .unset] [])) t → Steps p.tables e below (s₁.setTop (entryFrame m #[(.ref a1), (.int v1)] 3)) t := fun t k => castTop (ef_rm_wCI m a1 v1) k
  have S311 : ∀ t, Steps p.tables e below (s₁.setTop (mkF m 1 #[.val (.ref a1), .val (.int v1), .unset] [(.ref a1)])) t → Steps p.tables e below (s₁.setTop (mkF m 0 #[.val (.ref a1), .val (.int v1), .unset] [])) t := by
    intro t kt
    show Steps p.tables e below (s₁.setTop (mkF m 0 #[.val (.ref a1), .val (.int v1), .unset] [])) _
    refine XS.aloadN X0.here hx rfl (hb hby d5_0) rfl rfl ?_
    exact kt
  obtain ⟨T312, X312, e312, st312⟩ := getF X0 hx hZ hown (host := "") (Or.inl (hw _ (List.mem_of_getElem? (i := 12) rfl))) Via.refl e0 F307 (g := (mkF m 1 #[.val (.ref a1), .val (.int v1), .unset] [(.ref a1)])) rfl rfl (hb hby d5_1)
  have S313 : ∀ t, Steps p.tables e below (T312.setTop (mkF m 68 #[.val (.ref a1), .val (.int v1), .unset] [(.ref a1), (.ref a1)])) t → Steps p.tables e below (T312.setTop (mkF m 4 #[.val (.ref a1), .val (.int v1), .unset] [.null])) t := by
    intro t kt
    show Steps p.tables e below (T312.setTop (mkF m 4 #[.val (.ref a1), .val (.int v1), .unset] [.null])) _
    refine XS.ifnullYes X312.here hx rfl (pc0 := 4) (pc' := 66) rfl (hb hby d5_4) rfl (by decide) (by decide) ?_
    show Steps p.tables e below (T312.setTop (mkF m 66 #[.val (.ref a1), .val (.int v1), .unset] [])) _
    refine XS.aloadN X312.here hx rfl (hb hby d5_66) rfl rfl ?_
    show Steps p.tables e below (T312.setTop (mkF m 67 #[.val (.ref a1), .val (.int v1), .unset] [(.ref a1)])) _
    refine XS.aloadN X312.here hx rfl (hb hby d5_67) rfl rfl ?_
    exact kt
  obtain ⟨T314, X314, e314, st314⟩ := getF X312 hx hZ hown (host := "") (Or.inl (hw _ (List.mem_of_getElem? (i := 9) rfl))) Via.refl e312 F306 (g := (mkF m 68 #[.val (.ref a1), .val (.int v1), .unset] [(.ref a1), (.ref a1)])) rfl rfl (hb hby d5_68)
  obtain ⟨T315, h315, k315, X315, e315, E315, A315, st315⟩ := newP X314 hx hZ (hw _ (List.mem_of_getElem? (i := 33) rfl)) e314 (g := (mkF m 71 #[.val (.ref a1), .val (.int v1), .unset] [(.int (4 : Int32)), (.ref a1)])) rfl (hb hby d5_71) rfl (by decide) (cap := 4) (by decide) (by decide) (by decide) (by decide)
  obtain ⟨b315, g315⟩ : ∃ z, z = h0.size := ⟨_, rfl⟩
  rw [← g315] at A315 st315
  have g_b315 : n0 ≤ b315 := Nat.le_trans Z0 (Nat.le_of_eq g315.symm)
  have K316 := (Keep.refl h0 [a1])
  have sz_b315 : h0.size ≤ b315 := Nat.le_trans K316.1 (Nat.le_of_eq g315.symm)
  have ne_a1_b315 : a1 ≠ b315 := Nat.ne_of_lt (Nat.lt_of_lt_of_le F305.lt (Nat.le_of_eq g315.symm))
  have ne_t1_b315 : t1 ≠ b315 := Nat.ne_of_lt (Nat.lt_of_lt_of_le F310.lt (Nat.le_of_eq g315.symm))
  have z317 : n0 ≤ h315.size := Nat.le_trans Z0 E315.1
  have V315 : ArF Z h315 b315 .int 4 (fun _ => (.int (0 : Int32))) := ArF.new A315 (by decide) rfl
  have f318 := (F309.ext E315)
  have f319 := (F305.ext E315)
  obtain ⟨T320, h320, X320, e320, W320, st320⟩ := putF X315 hx hZ hown (host := "") (Or.inl (hw _ (List.mem_of_getElem? (i := 26) rfl))) Via.refl e315 f318 f319 (Or.inl (hw _ (List.mem_of_getElem? (i := 27) rfl))) (hw _ (List.mem_of_getElem? (i := 1) rfl)) (ty := (.array .int)) (by decide) rfl rfl (g := (mkF m 73 #[.val (.ref a1), .val (.int v1), .unset] [(.ref b315), (.ref a1)])) rfl rfl (hb hby d5_73)
  have z321 : n0 ≤ h320.size := Nat.le_trans z317 (Keep.of_wr W320).1
  have N322 := Fr.snoc X320 N0 g_a1
  have Fw320 := f318.same W320
  have S323 : ∀ t, Steps p.tables e below (T320.setTop (mkF m 80 #[.val (.ref a1), .val (.int v1), .val (.int (0 : Int32))] [(.ref a1), (.int (0 : Int32))])) t → Steps p.tables e below (T320.setTop (mkF m 76 #[.val (.ref a1), .val (.int v1), .unset] [])) t := by
    intro t kt
    show Steps p.tables e below (T320.setTop (mkF m 76 #[.val (.ref a1), .val (.int v1), .unset] [])) _
    refine XS.iconst X320.here hx rfl (hb hby d5_76) ?_
    show Steps p.tables e below (T320.setTop (mkF m 77 #[.val (.ref a1), .val (.int v1), .unset] [(.int (0 : Int32))])) _
    refine XS.istoreN X320.here hx rfl (hb hby d5_77) rfl (l' := #[.val (.ref a1), .val (.int v1), .val (.int (0 : Int32))]) rfl ?_
    show Steps p.tables e below (T320.setTop (mkF m 78 #[.val (.ref a1), .val (.int v1), .val (.int (0 : Int32))] [])) _
    refine XS.iloadN X320.here hx rfl (hb hby d5_78) rfl ?_
    show Steps p.tables e below (T320.setTop (mkF m 79 #[.val (.ref a1), .val (.int v1), .val (.int (0 : Int32))] [(.int (0 : Int32))])) _
    refine XS.aloadN X320.here hx rfl (hb hby d5_79) rfl rfl ?_
    exact kt
  have f324 := ((F306.ext E315).other W320 (Or.inr (slot_ne (Or.inl (hw _ (List.mem_of_getElem? (i := 10) rfl))) (Or.inl (hw _ (List.mem_of_getElem? (i := 27) rfl))) (by decide) (t := .int) (t' := (.array .int)) (by decide) (by decide))))
  obtain ⟨T325, X325, e325, st325⟩ := getF X320 hx hZ hown (host := "") (Or.inl (hw _ (List.mem_of_getElem? (i := 9) rfl))) Via.refl e320 f324 (g := (mkF m 80 #[.val (.ref a1), .val (.int v1), .val (.int (0 : Int32))] [(.ref a1), (.int (0 : Int32))])) rfl rfl (hb hby d5_80)
  have S326 : ∀ t, Steps p.tables e below (T325.setTop (mkF m 87 #[.val (.ref a1), .val (.int v1), .val (.int (0 : Int32))] [(.ref a1)])) t → Steps p.tables e below (T325.setTop (mkF m 83 #[.val (.ref a1), .val (.int v1), .val (.int (0 : Int32))] [(.int (4 : Int32)), (.int (0 : Int32))])) t := by
    intro t kt
    show Steps p.tables e below (T325.setTop (mkF m 83 #[.val (.ref a1), .val (.int v1), .val (.int (0 : Int32))] [(.int (4 : Int32)), (.int (0 : Int32))])) _
    refine XS.icmpNo X325.here hx rfl (hb hby d5_83) rfl (tlt (by decide)).2.1 ?_
    show Steps p.tables e below (T325.setTop (mkF m 86 #[.val (.ref a1), .val (.int v1), .val (.int (0 : Int32))] [])) _
    refine XS.aloadN X325.here hx rfl (hb hby d5_86) rfl rfl ?_
    exact kt
  obtain ⟨T327, X327, e327, st327⟩ := getF X325 hx hZ hown (host := "") (Or.inl (hw _ (List.mem_of_getElem? (i := 26) rfl))) Via.refl e325 Fw320 (g := (mkF m 87 #[.val (.ref a1), .val (.int v1), .val (.int (0 : Int32))] [(.ref a1)])) rfl rfl (hb hby d5_87)
  have S328 : ∀ t, Steps p.tables e below (T327.setTop (mkF m 92 #[.val (.ref a1), .val (.int v1), .val (.int (0 : Int32))] [(.ref a1), (.int (0 : Int32)), (.ref b315)])) t → Steps p.tables e below (T327.setTop (mkF m 90 #[.val (.ref a1), .val (.int v1), .val (.int (0 : Int32))] [(.ref b315)])) t := by
    intro t kt
    show Steps p.tables e below (T327.setTop (mkF m 90 #[.val (.ref a1), .val (.int v1), .val (.int (0 : Int32))] [(.ref b315)])) _
    refine XS.iloadN X327.here hx rfl (hb hby d5_90) rfl ?_
    show Steps p.tables e below (T327.setTop (mkF m 91 #[.val (.ref a1), .val (.int v1), .val (.int (0 : Int32))] [(.int (0 : Int32)), (.ref b315)])) _
    refine XS.aloadN X327.here hx rfl (hb hby d5_91) rfl rfl ?_
    exact kt
  have f329 := ((F307.ext E315).other W320 (Or.inr (slot_ne (Or.inl (hw _ (List.mem_of_getElem? (i := 13) rfl))) (Or.inl (hw _ (List.mem_of_getElem? (i := 27) rfl))) (by decide) (t := (.array .byte)) (t' := (.array .int)) (by decide) (by decide))))
  obtain ⟨T330, X330, e330, st330⟩ := getF X327 hx hZ hown (host := "") (Or.inl (hw _ (List.mem_of_getElem? (i := 12) rfl))) Via.refl e327 f329 (g := (mkF m 92 #[.val (.ref a1), .val (.int v1), .val (.int (0 : Int32))] [(.ref a1), (.int (0 : Int32)), (.ref b315)])) rfl rfl (hb hby d5_92)
  have S331 : ∀ t, Steps p.tables e below (T330.setTop (mkF m 112 #[.val (.ref a1), .val (.int v1), .val (.int (0 : Int32))] [(.ref a1), (.int (0 : Int32)), (.ref b315)])) t → Steps p.tables e below (T330.setTop (mkF m 95 #[.val (.ref a1), .val (.int v1), .val (.int (0 : Int32))] [.null, (.int (0 : Int32)), (.ref b315)])) t := by
    intro t kt
    show Steps p.tables e below (T330.setTop (mkF m 95 #[.val (.ref a1), .val (.int v1), .val (.int (0 : Int32))] [.null, (.int (0 : Int32)), (.ref b315)])) _
    refine XS.ifnullYes X330.here hx rfl (pc0 := 95) (pc' := 111) rfl (hb hby d5_95) rfl (by decide) (by decide) ?_
    show Steps p.tables e below (T330.setTop (mkF m 111 #[.val (.ref a1), .val (.int v1), .val (.int (0 : Int32))] [(.int (0 : Int32)), (.ref b315)])) _
    refine XS.aloadN X330.here hx rfl (hb hby d5_111) rfl rfl ?_
    exact kt
  have f332 := ((F308.ext E315).other W320 (Or.inr (slot_ne (Or.inl (hw _ (List.mem_of_getElem? (i := 25) rfl))) (Or.inl (hw _ (List.mem_of_getElem? (i := 27) rfl))) (by decide) (t := (.array .char)) (t' := (.array .int)) (by decide) (by decide))))
  obtain ⟨T333, X333, e333, st333⟩ := getF X330 hx hZ hown (host := "") (Or.inl (hw _ (List.mem_of_getElem? (i := 24) rfl))) Via.refl e330 f332 (g := (mkF m 112 #[.val (.ref a1), .val (.int v1), .val (.int (0 : Int32))] [(.ref a1), (.int (0 : Int32)), (.ref b315)])) rfl rfl (hb hby d5_112)
  have S334 : ∀ t, Steps p.tables e below (T333.setTop (mkF m 116 #[.val (.ref a1), .val (.int v1), .val (.int (0 : Int32))] [(.int (0 : Int32)), (.ref t1), (.int (0 : Int32)), (.ref b315)])) t → Steps p.tables e below (T333.setTop (mkF m 115 #[.val (.ref a1), .val (.int v1), .val (.int (0 : Int32))] [(.ref t1), (.int (0 : Int32)), (.ref b315)])) t := by
    intro t kt
    show Steps p.tables e below (T333.setTop (mkF m 115 #[.val (.ref a1), .val (.int v1), .val (.int (0 : Int32))] [(.ref t1), (.int (0 : Int32)), (.ref b315)])) _
    refine XS.iloadN X333.here hx rfl (hb hby d5_115) rfl ?_
    exact kt
  have f335 := ((F310.ext E315).other W320 (Ne.symm ne_a1_t1))
  have S336 : ∀ t, Steps p.tables e below (T333.setTop (mkF m 117 #[.val (.ref a1), .val (.int v1), .val (.int (0 : Int32))] [(.int (vals 0)), (.int (0 : Int32)), (.ref b315)])) t → Steps p.tables e below (T333.setTop (mkF m 116 #[.val (.ref a1), .val (.int v1), .val (.int (0 : Int32))] [(.int (0 : Int32)), (.ref t1), (.int (0 : Int32)), (.ref b315)])) t := by
    intro t kt
    show Steps p.tables e below (T333.setTop (mkF m 116 #[.val (.ref a1), .val (.int v1), .val (.int (0 : Int32))] [(.int (0 : Int32)), (.ref t1), (.int (0 : Int32)), (.ref b315)])) _
    refine ArF.ldC X333 hx hZ e333 f335 (i := 0) (by decide) (by decide) (v := (vals 0)) rfl (g := (mkF m 116 #[.val (.ref a1), .val (.int v1), .val (.int (0 : Int32))] [(.int (0 : Int32)), (.ref t1), (.int (0 : Int32)), (.ref b315)])) rfl rfl (hb hby d5_116) _ ?_
    exact kt
  have f337 := (V315.other W320 (Ne.symm ne_a1_b315))
  obtain ⟨T338, h338, X338, e338, W338, V338, st338⟩ := ArF.stI X333 hx hZ e333 f337 (i := 0) (by decide) (by decide) (g := (mkF m 117 #[.val (.ref a1), .val (.int v1), .val (.int (0 : Int32))] [(.int (vals 0)), (.int (0 : Int32)), (.ref b315)])) rfl rfl (hb hby d5_117)
  have z339 : n0 ≤ h338.size := Nat.le_trans z321 (Keep.of_wr W338).1
  have N340 := Fr.snoc X338 N322 g_b315
  have V338' := V338.congr (f' := (own_fill vals 1)) (own_fill0 (vals := vals) rfl)
  have S341 : ∀ t, Steps p.tables e below (T338.setTop (mkF m 80 #[.val (.ref a1), .val (.int v1), .val (.int (1 : Int32))] [(.ref a1), (.int (1 : Int32))])) t → Steps p.tables e below (T338.setTop (mkF m 118 #[.val (.ref a1), .val (.int v1), .val (.int (0 : Int32))] [])) t := by
    intro t kt
    show Steps p.tables e below (T338.setTop (mkF m 118 #[.val (.ref a1), .val (.int v1), .val (.int (0 : Int32))] [])) _
    refine XS.iinc X338.here hx rfl (hb hby d5_118) rfl (l' := #[.val (.ref a1), .val (.int v1), .val (.int (1 : Int32))]) rfl ?_
    show Steps p.tables e below (T338.setTop (mkF m 121 #[.val (.ref a1), .val (.int v1), .val (.int (1 : Int32))] [])) _
    refine XS.goto X338.here hx rfl (pc0 := 121) (pc' := 78) rfl (hb hby d5_121) (by decide) (by decide) ?_
    show Steps p.tables e below (T338.setTop (mkF m 78 #[.val (.ref a1), .val (.int v1), .val (.int (1 : Int32))] [])) _
    refine XS.iloadN X338.here hx rfl (hb hby d5_78) rfl ?_
    show Steps p.tables e below (T338.setTop (mkF m 79 #[.val (.ref a1), .val (.int v1), .val (.int (1 : Int32))] [(.int (1 : Int32))])) _
    refine XS.aloadN X338.here hx rfl (hb hby d5_79) rfl rfl ?_
    exact kt
  have f342 := (f324.other W338 (Or.inl ne_a1_b315))
  obtain ⟨T343, X343, e343, st343⟩ := getF X338 hx hZ hown (host := "") (Or.inl (hw _ (List.mem_of_getElem? (i := 9) rfl))) Via.refl e338 f342 (g := (mkF m 80 #[.val (.ref a1), .val (.int v1), .val (.int (1 : Int32))] [(.ref a1), (.int (1 : Int32))])) rfl rfl (hb hby d5_80)
  have S344 : ∀ t, Steps p.tables e below (T343.setTop (mkF m 87 #[.val (.ref a1), .val (.int v1), .val (.int (1 : Int32))] [(.ref a1)])) t → Steps p.tables e below (T343.setTop (mkF m 83 #[.val (.ref a1), .val (.int v1), .val (.int (1 : Int32))] [(.int (4 : Int32)), (.int (1 : Int32))])) t := by
    intro t kt
    show Steps p.tables e below (T343.setTop (mkF m 83 #[.val (.ref a1), .val (.int v1), .val (.int (1 : Int32))] [(.int (4 : Int32)), (.int (1 : Int32))])) _
    refine XS.icmpNo X343.here hx rfl (hb hby d5_83) rfl (tlt (by decide)).2.1 ?_
    show Steps p.tables e below (T343.setTop (mkF m 86 #[.val (.ref a1), .val (.int v1), .val (.int (1 : Int32))] [])) _
    refine XS.aloadN X343.here hx rfl (hb hby d5_86) rfl rfl ?_
    exact kt
  have f345 := (Fw320.other W338 (Or.inl ne_a1_b315))
  obtain ⟨T346, X346, e346, st346⟩ := getF X343 hx hZ hown (host := "") (Or.inl (hw _ (List.mem_of_getElem? (i := 26) rfl))) Via.refl e343 f345 (g := (mkF m 87 #[.val (.ref a1), .val (.int v1), .val (.int (1 : Int32))] [(.ref a1)])) rfl rfl (hb hby d5_87)
  have S347 : ∀ t, Steps p.tables e below (T346.setTop (mkF m 92 #[.val (.ref a1), .val (.int v1), .val (.int (1 : Int32))] [(.ref a1), (.int (1 : Int32)), (.ref b315)])) t → Steps p.tables e below (T346.setTop (mkF m 90 #[.val (.ref a1), .val (.int v1), .val (.int (1 : Int32))] [(.ref b315)])) t := by
    intro t kt
    show Steps p.tables e below (T346.setTop (mkF m 90 #[.val (.ref a1), .val (.int v1), .val (.int (1 : Int32))] [(.ref b315)])) _
    refine XS.iloadN X346.here hx rfl (hb hby d5_90) rfl ?_
    show Steps p.tables e below (T346.setTop (mkF m 91 #[.val (.ref a1), .val (.int v1), .val (.int (1 : Int32))] [(.int (1 : Int32)), (.ref b315)])) _
    refine XS.aloadN X346.here hx rfl (hb hby d5_91) rfl rfl ?_
    exact kt
  have f348 := (f329.other W338 (Or.inl ne_a1_b315))
  obtain ⟨T349, X349, e349, st349⟩ := getF X346 hx hZ hown (host := "") (Or.inl (hw _ (List.mem_of_getElem? (i := 12) rfl))) Via.refl e346 f348 (g := (mkF m 92 #[.val (.ref a1), .val (.int v1), .val (.int (1 : Int32))] [(.ref a1), (.int (1 : Int32)), (.ref b315)])) rfl rfl (hb hby d5_92)
  have S350 : ∀ t, Steps p.tables e below (T349.setTop (mkF m 112 #[.val (.ref a1), .val (.int v1), .val (.int (1 : Int32))] [(.ref a1), (.int (1 : Int32)), (.ref b315)])) t → Steps p.tables e below (T349.setTop (mkF m 95 #[.val (.ref a1), .val (.int v1), .val (.int (1 : Int32))] [.null, (.int (1 : Int32)), (.ref b315)])) t := by
    intro t kt
    show Steps p.tables e below (T349.setTop (mkF m 95 #[.val (.ref a1), .val (.int v1), .val (.int (1 : Int32))] [.null, (.int (1 : Int32)), (.ref b315)])) _
    refine XS.ifnullYes X349.here hx rfl (pc0 := 95) (pc' := 111) rfl (hb hby d5_95) rfl (by decide) (by decide) ?_
    show Steps p.tables e below (T349.setTop (mkF m 111 #[.val (.ref a1), .val (.int v1), .val (.int (1 : Int32))] [(.int (1 : Int32)), (.ref b315)])) _
    refine XS.aloadN X349.here hx rfl (hb hby d5_111) rfl rfl ?_
    exact kt
  have f351 := (f332.other W338 (Or.inl ne_a1_b315))
  obtain ⟨T352, X352, e352, st352⟩ := getF X349 hx hZ hown (host := "") (Or.inl (hw _ (List.mem_of_getElem? (i := 24) rfl))) Via.refl e349 f351 (g := (mkF m 112 #[.val (.ref a1), .val (.int v1), .val (.int (1 : Int32))] [(.ref a1), (.int (1 : Int32)), (.ref b315)])) rfl rfl (hb hby d5_112)
  have S353 : ∀ t, Steps p.tables e below (T352.setTop (mkF m 116 #[.val (.ref a1), .val (.int v1), .val (.int (1 : Int32))] [(.int (1 : Int32)), (.ref t1), (.int (1 : Int32)), (.ref b315)])) t → Steps p.tables e below (T352.setTop (mkF m 115 #[.val (.ref a1), .val (.int v1), .val (.int (1 : Int32))] [(.ref t1), (.int (1 : Int32)), (.ref b315)])) t := by
    intro t kt
    show Steps p.tables e below (T352.setTop (mkF m 115 #[.val (.ref a1), .val (.int v1), .val (.int (1 : Int32))] [(.ref t1), (.int (1 : Int32)), (.ref b315)])) _
    refine XS.iloadN X352.here hx rfl (hb hby d5_115) rfl ?_
    exact kt
  have f354 := (f335.other W338 ne_t1_b315)
  have S355 : ∀ t, Steps p.tables e below (T352.setTop (mkF m 117 #[.val (.ref a1), .val (.int v1), .val (.int (1 : Int32))] [(.int (vals 1)), (.int (1 : Int32)), (.ref b315)])) t → Steps p.tables e below (T352.setTop (mkF m 116 #[.val (.ref a1), .val (.int v1), .val (.int (1 : Int32))] [(.int (1 : Int32)), (.ref t1), (.int (1 : Int32)), (.ref b315)])) t := by
    intro t kt
    show Steps p.tables e below (T352.setTop (mkF m 116 #[.val (.ref a1), .val (.int v1), .val (.int (1 : Int32))] [(.int (1 : Int32)), (.ref t1), (.int (1 : Int32)), (.ref b315)])) _
    refine ArF.ldC X352 hx hZ e352 f354 (i := 1) (by decide) (by decide) (v := (vals 1)) rfl (g := (mkF m 116 #[.val (.ref a1), .val (.int v1), .val (.int (1 : Int32))] [(.int (1 : Int32)), (.ref t1), (.int (1 : Int32)), (.ref b315)])) rfl rfl (hb hby d5_116) _ ?_
    exact kt
  obtain ⟨T356, h356, X356, e356, W356, V356, st356⟩ := ArF.stI X352 hx hZ e352 V338' (i := 1) (by decide) (by decide) (g := (mkF m 117 #[.val (.ref a1), .val (.int v1), .val (.int (1 : Int32))] [(.int (vals 1)), (.int (1 : Int32)), (.ref b315)])) rfl rfl (hb hby d5_117)
  have z357 : n0 ≤ h356.size := Nat.le_trans z339 (Keep.of_wr W356).1
  have N358 := Fr.snoc X356 N340 g_b315
  have V356' := V356.congr (f' := (own_fill vals 2)) (own_fillS (vals := vals) 1 rfl)
  have S359 : ∀ t, Steps p.tables e below (T356.setTop (mkF m 80 #[.val (.ref a1), .val (.int v1), .val (.int (2 : Int32))] [(.ref a1), (.int (2 : Int32))])) t → Steps p.tables e below (T356.setTop (mkF m 118 #[.val (.ref a1), .val (.int v1), .val (.int (1 : Int32))] [])) t := by
    intro t kt
    show Steps p.tables e below (T356.setTop (mkF m 118 #[.val (.ref a1), .val (.int v1), .val (.int (1 : Int32))] [])) _
    refine XS.iinc X356.here hx rfl (hb hby d5_118) rfl (l' := #[.val (.ref a1), .val (.int v1), .val (.int (2 : Int32))]) rfl ?_
    show Steps p.tables e below (T356.setTop (mkF m 121 #[.val (.ref a1), .val (.int v1), .val (.int (2 : Int32))] [])) _
    refine XS.goto X356.here hx rfl (pc0 := 121) (pc' := 78) rfl (hb hby d5_121) (by decide) (by decide) ?_
    show Steps p.tables e below (T356.setTop (mkF m 78 #[.val (.ref a1), .val (.int v1), .val (.int (2 : Int32))] [])) _
    refine XS.iloadN X356.here hx rfl (hb hby d5_78) rfl ?_
    show Steps p.tables e below (T356.setTop (mkF m 79 #[.val (.ref a1), .val (.int v1), .val (.int (2 : Int32))] [(.int (2 : Int32))])) _
    refine XS.aloadN X356.here hx rfl (hb hby d5_79) rfl rfl ?_
    exact kt
  have f360 := (f342.other W356 (Or.inl ne_a1_b315))
  obtain ⟨T361, X361, e361, st361⟩ := getF X356 hx hZ hown (host := "") (Or.inl (hw _ (List.mem_of_getElem? (i := 9) rfl))) Via.refl e356 f360 (g := (mkF m 80 #[.val (.ref a1), .val (.int v1), .val (.int (2 : Int32))] [(.ref a1), (.int (2 : Int32))])) rfl rfl (hb hby d5_80)
  have S362 : ∀ t, Steps p.tables e below (T361.setTop (mkF m 87 #[.val (.ref a1), .val (.int v1), .val (.int (2 : Int32))] [(.ref a1)])) t → Steps p.tables e below (T361.setTop (mkF m 83 #[.val (.ref a1), .val (.int v1), .val (.int (2 : Int32))] [(.int (4 : Int32)), (.int (2 : Int32))])) t := by
    intro t kt
    show Steps p.tables e below (T361.setTop (mkF m 83 #[.val (.ref a1), .val (.int v1), .val (.int (2 : Int32))] [(.int (4 : Int32)), (.int (2 : Int32))])) _
    refine XS.icmpNo X361.here hx rfl (hb hby d5_83) rfl (tlt (by decide)).2.1 ?_
    show Steps p.tables e below (T361.setTop (mkF m 86 #[.val (.ref a1), .val (.int v1), .val (.int (2 : Int32))] [])) _
    refine XS.aloadN X361.here hx rfl (hb hby d5_86) rfl rfl ?_
    exact kt
  have f363 := (f345.other W356 (Or.inl ne_a1_b315))
  obtain ⟨T364, X364, e364, st364⟩ := getF X361 hx hZ hown (host := "") (Or.inl (hw _ (List.mem_of_getElem? (i := 26) rfl))) Via.refl e361 f363 (g := (mkF m 87 #[.val (.ref a1), .val (.int v1), .val (.int (2 : Int32))] [(.ref a1)])) rfl rfl (hb hby d5_87)
  have S365 : ∀ t, Steps p.tables e below (T364.setTop (mkF m 92 #[.val (.ref a1), .val (.int v1), .val (.int (2 : Int32))] [(.ref a1), (.int (2 : Int32)), (.ref b315)])) t → Steps p.tables e below (T364.setTop (mkF m 90 #[.val (.ref a1), .val (.int v1), .val (.int (2 : Int32))] [(.ref b315)])) t := by
    intro t kt
    show Steps p.tables e below (T364.setTop (mkF m 90 #[.val (.ref a1), .val (.int v1), .val (.int (2 : Int32))] [(.ref b315)])) _
    refine XS.iloadN X364.here hx rfl (hb hby d5_90) rfl ?_
    show Steps p.tables e below (T364.setTop (mkF m 91 #[.val (.ref a1), .val (.int v1), .val (.int (2 : Int32))] [(.int (2 : Int32)), (.ref b315)])) _
    refine XS.aloadN X364.here hx rfl (hb hby d5_91) rfl rfl ?_
    exact kt
  have f366 := (f348.other W356 (Or.inl ne_a1_b315))
  obtain ⟨T367, X367, e367, st367⟩ := getF X364 hx hZ hown (host := "") (Or.inl (hw _ (List.mem_of_getElem? (i := 12) rfl))) Via.refl e364 f366 (g := (mkF m 92 #[.val (.ref a1), .val (.int v1), .val (.int (2 : Int32))] [(.ref a1), (.int (2 : Int32)), (.ref b315)])) rfl rfl (hb hby d5_92)
  have S368 : ∀ t, Steps p.tables e below (T367.setTop (mkF m 112 #[.val (.ref a1), .val (.int v1), .val (.int (2 : Int32))] [(.ref a1), (.int (2 : Int32)), (.ref b315)])) t → Steps p.tables e below (T367.setTop (mkF m 95 #[.val (.ref a1), .val (.int v1), .val (.int (2 : Int32))] [.null, (.int (2 : Int32)), (.ref b315)])) t := by
    intro t kt
    show Steps p.tables e below (T367.setTop (mkF m 95 #[.val (.ref a1), .val (.int v1), .val (.int (2 : Int32))] [.null, (.int (2 : Int32)), (.ref b315)])) _
    refine XS.ifnullYes X367.here hx rfl (pc0 := 95) (pc' := 111) rfl (hb hby d5_95) rfl (by decide) (by decide) ?_
    show Steps p.tables e below (T367.setTop (mkF m 111 #[.val (.ref a1), .val (.int v1), .val (.int (2 : Int32))] [(.int (2 : Int32)), (.ref b315)])) _
    refine XS.aloadN X367.here hx rfl (hb hby d5_111) rfl rfl ?_
    exact kt
  have f369 := (f351.other W356 (Or.inl ne_a1_b315))
  obtain ⟨T370, X370, e370, st370⟩ := getF X367 hx hZ hown (host := "") (Or.inl (hw _ (List.mem_of_getElem? (i := 24) rfl))) Via.refl e367 f369 (g := (mkF m 112 #[.val (.ref a1), .val (.int v1), .val (.int (2 : Int32))] [(.ref a1), (.int (2 : Int32)), (.ref b315)])) rfl rfl (hb hby d5_112)
  have S371 : ∀ t, Steps p.tables e below (T370.setTop (mkF m 116 #[.val (.ref a1), .val (.int v1), .val (.int (2 : Int32))] [(.int (2 : Int32)), (.ref t1), (.int (2 : Int32)), (.ref b315)])) t → Steps p.tables e below (T370.setTop (mkF m 115 #[.val (.ref a1), .val (.int v1), .val (.int (2 : Int32))] [(.ref t1), (.int (2 : Int32)), (.ref b315)])) t := by
    intro t kt
    show Steps p.tables e below (T370.setTop (mkF m 115 #[.val (.ref a1), .val (.int v1), .val (.int (2 : Int32))] [(.ref t1), (.int (2 : Int32)), (.ref b315)])) _
    refine XS.iloadN X370.here hx rfl (hb hby d5_115) rfl ?_
    exact kt
  have f372 := (f354.other W356 ne_t1_b315)
  have S373 : ∀ t, Steps p.tables e below (T370.setTop (mkF m 117 #[.val (.ref a1), .val (.int v1), .val (.int (2 : Int32))] [(.int (vals 2)), (.int (2 : Int32)), (.ref b315)])) t → Steps p.tables e below (T370.setTop (mkF m 116 #[.val (.ref a1), .val (.int v1), .val (.int (2 : Int32))] [(.int (2 : Int32)), (.ref t1), (.int (2 : Int32)), (.ref b315)])) t := by
    intro t kt
    show Steps p.tables e below (T370.setTop (mkF m 116 #[.val (.ref a1), .val (.int v1), .val (.int (2 : Int32))] [(.int (2 : Int32)), (.ref t1), (.int (2 : Int32)), (.ref b315)])) _
    refine ArF.ldC X370 hx hZ e370 f372 (i := 2) (by decide) (by decide) (v := (vals 2)) rfl (g := (mkF m 116 #[.val (.ref a1), .val (.int v1), .val (.int (2 : Int32))] [(.int (2 : Int32)), (.ref t1), (.int (2 : Int32)), (.ref b315)])) rfl rfl (hb hby d5_116) _ ?_
    exact kt
  obtain ⟨T374, h374, X374, e374, W374, V374, st374⟩ := ArF.stI X370 hx hZ e370 V356' (i := 2) (by decide) (by decide) (g := (mkF m 117 #[.val (.ref a1), .val (.int v1), .val (.int (2 : Int32))] [(.int (vals 2)), (.int (2 : Int32)), (.ref b315)])) rfl rfl (hb hby d5_117)
  have z375 : n0 ≤ h374.size := Nat.le_trans z357 (Keep.of_wr W374).1
  have N376 := Fr.snoc X374 N358 g_b315
  have V374' := V374.congr (f' := (own_fill vals 3)) (own_fillS (vals := vals) 2 rfl)
  have S377 : ∀ t, Steps p.tables e below (T374.setTop (mkF m 80 #[.val (.ref a1), .val (.int v1), .val (.int (3 : Int32))] [(.ref a1), (.int (3 : Int32))])) t → Steps p.tables e below (T374.setTop (mkF m 118 #[.val (.ref a1), .val (.int v1), .val (.int (2 : Int32))] [])) t := by
    intro t kt
    show Steps p.tables e below (T374.setTop (mkF m 118 #[.val (.ref a1), .val (.int v1), .val (.int (2 : Int32))] [])) _
    refine XS.iinc X374.here hx rfl (hb hby d5_118) rfl (l' := #[.val (.ref a1), .val (.int v1), .val (.int (3 : Int32))]) rfl ?_
    show Steps p.tables e below (T374.setTop (mkF m 121 #[.val (.ref a1), .val (.int v1), .val (.int (3 : Int32))] [])) _
    refine XS.goto X374.here hx rfl (pc0 := 121) (pc' := 78) rfl (hb hby d5_121) (by decide) (by decide) ?_
    show Steps p.tables e below (T374.setTop (mkF m 78 #[.val (.ref a1), .val (.int v1), .val (.int (3 : Int32))] [])) _
    refine XS.iloadN X374.here hx rfl (hb hby d5_78) rfl ?_
    show Steps p.tables e below (T374.setTop (mkF m 79 #[.val (.ref a1), .val (.int v1), .val (.int (3 : Int32))] [(.int (3 : Int32))])) _
    refine XS.aloadN X374.here hx rfl (hb hby d5_79) rfl rfl ?_
    exact kt
  have f378 := (f360.other W374 (Or.inl ne_a1_b315))
  obtain ⟨T379, X379, e379, st379⟩ := getF X374 hx hZ hown (host := "") (Or.inl (hw _ (List.mem_of_getElem? (i := 9) rfl))) Via.refl e374 f378 (g := (mkF m 80 #[.val (.ref a1), .val (.int v1), .val (.int (3 : Int32))] [(.ref a1), (.int (3 : Int32))])) rfl rfl (hb hby d5_80)
  have S380 : ∀ t, Steps p.tables e below (T379.setTop (mkF m 87 #[.val (.ref a1), .val (.int v1), .val (.int (3 : Int32))] [(.ref a1)])) t → Steps p.tables e below (T379.setTop (mkF m 83 #[.val (.ref a1), .val (.int v1), .val (.int (3 : Int32))] [(.int (4 : Int32)), (.int (3 : Int32))])) t := by
    intro t kt
    show Steps p.tables e below (T379.setTop (mkF m 83 #[.val (.ref a1), .val (.int v1), .val (.int (3 : Int32))] [(.int (4 : Int32)), (.int (3 : Int32))])) _
    refine XS.icmpNo X379.here hx rfl (hb hby d5_83) rfl (tlt (by decide)).2.1 ?_
    show Steps p.tables e below (T379.setTop (mkF m 86 #[.val (.ref a1), .val (.int v1), .val (.int (3 : Int32))] [])) _
    refine XS.aloadN X379.here hx rfl (hb hby d5_86) rfl rfl ?_
    exact kt
  have f381 := (f363.other W374 (Or.inl ne_a1_b315))
  obtain ⟨T382, X382, e382, st382⟩ := getF X379 hx hZ hown (host := "") (Or.inl (hw _ (List.mem_of_getElem? (i := 26) rfl))) Via.refl e379 f381 (g := (mkF m 87 #[.val (.ref a1), .val (.int v1), .val (.int (3 : Int32))] [(.ref a1)])) rfl rfl (hb hby d5_87)
  have S383 : ∀ t, Steps p.tables e below (T382.setTop (mkF m 92 #[.val (.ref a1), .val (.int v1), .val (.int (3 : Int32))] [(.ref a1), (.int (3 : Int32)), (.ref b315)])) t → Steps p.tables e below (T382.setTop (mkF m 90 #[.val (.ref a1), .val (.int v1), .val (.int (3 : Int32))] [(.ref b315)])) t := by
    intro t kt
    show Steps p.tables e below (T382.setTop (mkF m 90 #[.val (.ref a1), .val (.int v1), .val (.int (3 : Int32))] [(.ref b315)])) _
    refine XS.iloadN X382.here hx rfl (hb hby d5_90) rfl ?_
    show Steps p.tables e below (T382.setTop (mkF m 91 #[.val (.ref a1), .val (.int v1), .val (.int (3 : Int32))] [(.int (3 : Int32)), (.ref b315)])) _
    refine XS.aloadN X382.here hx rfl (hb hby d5_91) rfl rfl ?_
    exact kt
  have f384 := (f366.other W374 (Or.inl ne_a1_b315))
  obtain ⟨T385, X385, e385, st385⟩ := getF X382 hx hZ hown (host := "") (Or.inl (hw _ (List.mem_of_getElem? (i := 12) rfl))) Via.refl e382 f384 (g := (mkF m 92 #[.val (.ref a1), .val (.int v1), .val (.int (3 : Int32))] [(.ref a1), (.int (3 : Int32)), (.ref b315)])) rfl rfl (hb hby d5_92)
  have S386 : ∀ t, Steps p.tables e below (T385.setTop (mkF m 112 #[.val (.ref a1), .val (.int v1), .val (.int (3 : Int32))] [(.ref a1), (.int (3 : Int32)), (.ref b315)])) t → Steps p.tables e below (T385.setTop (mkF m 95 #[.val (.ref a1), .val (.int v1), .val (.int (3 : Int32))] [.null, (.int (3 : Int32)), (.ref b315)])) t := by
    intro t kt
    show Steps p.tables e below (T385.setTop (mkF m 95 #[.val (.ref a1), .val (.int v1), .val (.int (3 : Int32))] [.null, (.int (3 : Int32)), (.ref b315)])) _
    refine XS.ifnullYes X385.here hx rfl (pc0 := 95) (pc' := 111) rfl (hb hby d5_95) rfl (by decide) (by decide) ?_
    show Steps p.tables e below (T385.setTop (mkF m 111 #[.val (.ref a1), .val (.int v1), .val (.int (3 : Int32))] [(.int (3 : Int32)), (.ref b315)])) _
    refine XS.aloadN X385.here hx rfl (hb hby d5_111) rfl rfl ?_
    exact kt
  have f387 := (f369.other W374 (Or.inl ne_a1_b315))
  obtain ⟨T388, X388, e388, st388⟩ := getF X385 hx hZ hown (host := "") (Or.inl (hw _ (List.mem_of_getElem? (i := 24) rfl))) Via.refl e385 f387 (g := (mkF m 112 #[.val (.ref a1), .val (.int v1), .val (.int (3 : Int32))] [(.ref a1), (.int (3 : Int32)), (.ref b315)])) rfl rfl (hb hby d5_112)
  have S389 : ∀ t, Steps p.tables e below (T388.setTop (mkF m 116 #[.val (.ref a1), .val (.int v1), .val (.int (3 : Int32))] [(.int (3 : Int32)), (.ref t1), (.int (3 : Int32)), (.ref b315)])) t → Steps p.tables e below (T388.setTop (mkF m 115 #[.val (.ref a1), .val (.int v1), .val (.int (3 : Int32))] [(.ref t1), (.int (3 : Int32)), (.ref b315)])) t := by
    intro t kt
    show Steps p.tables e below (T388.setTop (mkF m 115 #[.val (.ref a1), .val (.int v1), .val (.int (3 : Int32))] [(.ref t1), (.int (3 : Int32)), (.ref b315)])) _
    refine XS.iloadN X388.here hx rfl (hb hby d5_115) rfl ?_
    exact kt
  have f390 := (f372.other W374 ne_t1_b315)
  have S391 : ∀ t, Steps p.tables e below (T388.setTop (mkF m 117 #[.val (.ref a1), .val (.int v1), .val (.int (3 : Int32))] [(.int (vals 3)), (.int (3 : Int32)), (.ref b315)])) t → Steps p.tables e below (T388.setTop (mkF m 116 #[.val (.ref a1), .val (.int v1), .val (.int (3 : Int32))] [(.int (3 : Int32)), (.ref t1), (.int (3 : Int32)), (.ref b315)])) t := by
    intro t kt
    show Steps p.tables e below (T388.setTop (mkF m 116 #[.val (.ref a1), .val (.int v1), .val (.int (3 : Int32))] [(.int (3 : Int32)), (.ref t1), (.int (3 : Int32)), (.ref b315)])) _
    refine ArF.ldC X388 hx hZ e388 f390 (i := 3) (by decide) (by decide) (v := (vals 3)) rfl (g := (mkF m 116 #[.val (.ref a1), .val (.int v1), .val (.int (3 : Int32))] [(.int (3 : Int32)), (.ref t1), (.int (3 : Int32)), (.ref b315)])) rfl rfl (hb hby d5_116) _ ?_
    exact kt
  obtain ⟨T392, h392, X392, e392, W392, V392, st392⟩ := ArF.stI X388 hx hZ e388 V374' (i := 3) (by decide) (by decide) (g := (mkF m 117 #[.val (.ref a1), .val (.int v1), .val (.int (3 : Int32))] [(.int (vals 3)), (.int (3 : Int32)), (.ref b315)])) rfl rfl (hb hby d5_117)
  have z393 : n0 ≤ h392.size := Nat.le_trans z375 (Keep.of_wr W392).1
  have N394 := Fr.snoc X392 N376 g_b315
  have V392' := V392.congr (f' := (own_fill vals 4)) (own_fillS (vals := vals) 3 rfl)
  have S395 : ∀ t, Steps p.tables e below (T392.setTop (mkF m 80 #[.val (.ref a1), .val (.int v1), .val (.int (4 : Int32))] [(.ref a1), (.int (4 : Int32))])) t → Steps p.tables e below (T392.setTop (mkF m 118 #[.val (.ref a1), .val (.int v1), .val (.int (3 : Int32))] [])) t := by
    intro t kt
    show Steps p.tables e below (T392.setTop (mkF m 118 #[.val (.ref a1), .val (.int v1), .val (.int (3 : Int32))] [])) _
    refine XS.iinc X392.here hx rfl (hb hby d5_118) rfl (l' := #[.val (.ref a1), .val (.int v1), .val (.int (4 : Int32))]) rfl ?_
    show Steps p.tables e below (T392.setTop (mkF m 121 #[.val (.ref a1), .val (.int v1), .val (.int (4 : Int32))] [])) _
    refine XS.goto X392.here hx rfl (pc0 := 121) (pc' := 78) rfl (hb hby d5_121) (by decide) (by decide) ?_
    show Steps p.tables e below (T392.setTop (mkF m 78 #[.val (.ref a1), .val (.int v1), .val (.int (4 : Int32))] [])) _
    refine XS.iloadN X392.here hx rfl (hb hby d5_78) rfl ?_
    show Steps p.tables e below (T392.setTop (mkF m 79 #[.val (.ref a1), .val (.int v1), .val (.int (4 : Int32))] [(.int (4 : Int32))])) _
    refine XS.aloadN X392.here hx rfl (hb hby d5_79) rfl rfl ?_
    exact kt
  have f396 := (f378.other W392 (Or.inl ne_a1_b315))
  obtain ⟨T397, X397, e397, st397⟩ := getF X392 hx hZ hown (host := "") (Or.inl (hw _ (List.mem_of_getElem? (i := 9) rfl))) Via.refl e392 f396 (g := (mkF m 80 #[.val (.ref a1), .val (.int v1), .val (.int (4 : Int32))] [(.ref a1), (.int (4 : Int32))])) rfl rfl (hb hby d5_80)
  have S398 : ∀ t, Steps p.tables e below (T397.setTop (mkF m 126 #[.val (.ref a1), .val (.int v1), .val (.int (4 : Int32))] [.null, (.ref a1)])) t → Steps p.tables e below (T397.setTop (mkF m 83 #[.val (.ref a1), .val (.int v1), .val (.int (4 : Int32))] [(.int (4 : Int32)), (.int (4 : Int32))])) t := by
    intro t kt
    show Steps p.tables e below (T397.setTop (mkF m 83 #[.val (.ref a1), .val (.int v1), .val (.int (4 : Int32))] [(.int (4 : Int32)), (.int (4 : Int32))])) _
    refine XS.icmpYes X397.here hx rfl (pc0 := 83) (pc' := 124) rfl (hb hby d5_83) rfl (flt (by decide)).2.1 (by decide) (by decide) ?_
    show Steps p.tables e below (T397.setTop (mkF m 124 #[.val (.ref a1), .val (.int v1), .val (.int (4 : Int32))] [])) _
    refine XS.aloadN X397.here hx rfl (hb hby d5_124) rfl rfl ?_
    show Steps p.tables e below (T397.setTop (mkF m 125 #[.val (.ref a1), .val (.int v1), .val (.int (4 : Int32))] [(.ref a1)])) _
    refine XS.aconstNull X397.here hx rfl (hb hby d5_125) ?_
    exact kt
  have f399 := (f384.other W392 (Or.inl ne_a1_b315))
  have f400 := (((((f319.wr W320).wr W338).wr W356).wr W374).wr W392)
  obtain ⟨T401, h401, X401, e401, W401, st401⟩ := putF X397 hx hZ hown (host := "") (Or.inl (hw _ (List.mem_of_getElem? (i := 12) rfl))) Via.refl e397 f399 f400 (Or.inl (hw _ (List.mem_of_getElem? (i := 13) rfl))) (hw _ (List.mem_of_getElem? (i := 1) rfl)) (ty := (.array .byte)) (by decide) rfl rfl (g := (mkF m 126 #[.val (.ref a1), .val (.int v1), .val (.int (4 : Int32))] [.null, (.ref a1)])) rfl rfl (hb hby d5_126)
  have z402 : n0 ≤ h401.size := Nat.le_trans z393 (Keep.of_wr W401).1
  have N403 := Fr.snoc X401 N394 g_a1
  have Fw401 := f399.same W401
  have S404 : ∀ t, Steps p.tables e below (T401.setTop (mkF m 131 #[.val (.ref a1), .val (.int v1), .val (.int (4 : Int32))] [.null, (.ref a1)])) t → Steps p.tables e below (T401.setTop (mkF m 129 #[.val (.ref a1), .val (.int v1), .val (.int (4 : Int32))] [])) t := by
    intro t kt
    show Steps p.tables e below (T401.setTop (mkF m 129 #[.val (.ref a1), .val (.int v1), .val (.int (4 : Int32))] [])) _
    refine XS.aloadN X401.here hx rfl (hb hby d5_129) rfl rfl ?_
    show Steps p.tables e below (T401.setTop (mkF m 130 #[.val (.ref a1), .val (.int v1), .val (.int (4 : Int32))] [(.ref a1)])) _
    refine XS.aconstNull X401.here hx rfl (hb hby d5_130) ?_
    exact kt
  have f405 := ((f387.other W392 (Or.inl ne_a1_b315)).other W401 (Or.inr (slot_ne (Or.inl (hw _ (List.mem_of_getElem? (i := 25) rfl))) (Or.inl (hw _ (List.mem_of_getElem? (i := 13) rfl))) (by decide) (t := (.array .char)) (t' := (.array .byte)) (by decide) (by decide))))
  have f406 := (f400.wr W401)
  obtain ⟨T407, h407, X407, e407, W407, st407⟩ := putF X401 hx hZ hown (host := "") (Or.inl (hw _ (List.mem_of_getElem? (i := 24) rfl))) Via.refl e401 f405 f406 (Or.inl (hw _ (List.mem_of_getElem? (i := 25) rfl))) (hw _ (List.mem_of_getElem? (i := 1) rfl)) (ty := (.array .char)) (by decide) rfl rfl (g := (mkF m 131 #[.val (.ref a1), .val (.int v1), .val (.int (4 : Int32))] [.null, (.ref a1)])) rfl rfl (hb hby d5_131)
  have z408 : n0 ≤ h407.size := Nat.le_trans z402 (Keep.of_wr W407).1
  have N409 := Fr.snoc X407 N403 g_a1
  have Fw407 := f405.same W407
  have C410 : ∀ t, Steps p.tables e below (T407.setTop (mkF m 134 #[.val (.ref a1), .val (.int v1), .val (.int (4 : Int32))] [])) t → Steps p.tables e below (s₁.setTop (mkF m 0 #[.val (.ref a1), .val (.int v1), .unset] [])) t := (fun t k => (S311 t (st312 t (S313 t (st314 t (st315 t (st320 t (S323 t (st325 t (S326 t (st327 t (S328 t (st330 t (S331 t (st333 t (S334 t (S336 t (st338 t (S341 t (st343 t (S344 t (st346 t (S347 t (st349 t (S350 t (st352 t (S353 t (S355 t (st356 t (S359 t (st361 t (S362 t (st364 t (S365 t (st367 t (S368 t (st370 t (S371 t (S373 t (st374 t (S377 t (st379 t (S380 t (st382 t (S383 t (st385 t (S386 t (st388 t (S389 t (S391 t (st392 t (S395 t (st397 t (S398 t (st401 t (S404 t (st407 t k)))))))))))))))))))))))))))))))))))))))))))))))))))))))))
  obtain ⟨fs, hr, hrun, hended, hW, hsame⟩ := X407.leave (v := none) (fun _ => rfl)
  refine ⟨_, _, pre0 _ (C410 _ ?_), hrun, hended, _, _, rfl, ?_, ⟨_, rfl⟩, hW, hsame.mono (by decide) (by decide)⟩
  · exact X407.returnOut hx Bd.returns (hb hby d5_134) hr
  · show Q_rm_wCI Z a1 v1 t1 vals h0 n0 _ T407.heap _
    rw [e407]
    have f411 := ((V392'.other W401 (Ne.symm ne_a1_b315)).other W407 (Ne.symm ne_a1_b315))
    have V412 := f411.congr (f' := (fun q => (.int (vals q)))) own_fill4
    have f413 := (f406.wr W407)
    have f414 := ((f396.other W401 (Or.inr (slot_ne (Or.inl (hw _ (List.mem_of_getElem? (i := 10) rfl))) (Or.inl (hw _ (List.mem_of_getElem? (i := 13) rfl))) (by decide) (t := .int) (t' := (.array .byte)) (by decide) (by decide)))).other W407 (Or.inr (slot_ne (Or.inl (hw _ (List.mem_of_getElem? (i := 10) rfl))) (Or.inl (hw _ (List.mem_of_getElem? (i := 25) rfl))) (by decide) (t := .int) (t' := (.array .char)) (by decide) (by decide))))
    have f415 := (Fw401.other W407 (Or.inr (slot_ne (Or.inl (hw _ (List.mem_of_getElem? (i := 13) rfl))) (Or.inl (hw _ (List.mem_of_getElem? (i := 25) rfl))) (by decide) (t := (.array .byte)) (t' := (.array .char)) (by decide) (by decide))))
    have f416 := (((f381.other W392 (Or.inl ne_a1_b315)).other W401 (Or.inr (slot_ne (Or.inl (hw _ (List.mem_of_getElem? (i := 27) rfl))) (Or.inl (hw _ (List.mem_of_getElem? (i := 13) rfl))) (by decide) (t := (.array .int)) (t' := (.array .byte)) (by decide) (by decide)))).other W407 (Or.inr (slot_ne (Or.inl (hw _ (List.mem_of_getElem? (i := 27) rfl))) (Or.inl (hw _ (List.mem_of_getElem? (i := 25) rfl))) (by decide) (t := (.array .int)) (t' := (.array .char)) (by decide) (by decide))))
    exact ⟨rfl, N409, z408, ⟨b315, ⟨g_a1, g_b315, ne_a1_b315, f413, f414⟩, f415, Fw407, f416, V412⟩⟩
theorem ef_rm_sI (m : MethodId) (x0 : Addr) (x1 : Int32) (x2 : Int32) : entryFrame m #[(.ref x0), (.int x1), (.int x2)] 3 = mkF m 0 #[.val (.ref x0), .val (.int x1), .val (.int x2)] [] := by first | (simp [entryFrame, mkF, argsToLocals, Value.category]; done) | rfl
def Q_rm_sI (Z : State) (a1 : Addr) (i1 : Int32) (v1 : Int32) (i : Nat) (t1 : Addr) (vals : Nat → Int32) (h0 : Heap) (n0 : Nat) (v : Option Value) (h : Heap) (L : List Loc) : Prop := v = none ∧ Fr n0 L ∧ n0 ≤ h.size ∧ own_NI Z h n0 a1 (own_put vals i v1)
set_option maxRecDepth 65536 in
set_option maxHeartbeats 40000000 in
theorem rm_sI (l : Launch) (Z : State) (a0 : Array Value) (hw : ∀ d ∈ tables_1, d.before a0 Z = true) (ws : List Jvm.Cond) (a1 : Addr) (i1 : Int32) (v1 : Int32) (i : Nat) (t1 : Addr) (vals : Nat → Int32) (h0 : Heap) (n0 : Nat) (Z0 : n0 ≤ h0.size) (F417 : Exa Z h0 a1 "com/example/joinery/joinery/NarrowInts") (F418 : Fld Z h0 a1 "com/example/joinery/joinery/NarrowInts" "capacity" "I" (.int (4 : Int32))) (F419 : Fld Z h0 a1 "com/example/joinery/joinery/NarrowInts" "bytes" "[B" .null) (F420 : Fld Z h0 a1 "com/example/joinery/joinery/NarrowInts" "chars" "[C" .null) (F421 : Fld Z h0 a1 "com/example/joinery/joinery/NarrowInts" "ints" "[I" (.ref t1)) (F422 : ArF Z h0 t1 .int 4 (fun q => (.int (vals q)))) (g_a1 : n0 ≤ a1) (g_t1 : n0 ≤ t1) (ne_a1_t1 : a1 ≠ t1) (hi : i1.toInt = (i : Int) ∧ i < 4) :
    MetFree l (⟨"com/example/joinery/joinery/NarrowInts", "set", "(II)V"⟩ : MethodName) (head1 (Jvm.Cond.code (⟨"com/example/joinery/joinery/NarrowInts", "set", "(II)V"⟩ : MethodName) prog_31_method_4_code 3 none :: ws) ({ frames := 0, cells := 0, slots := 0, locals := 0 } : Room)) (fun a U => a = #[(.ref a1), (.int i1), (.int v1)] ∧ Z.Warmed39 U.vm ∧ U.heap = h0) (fun _ _ _ _ _ => True) (fun _ U o U' => ∃ v L, o = .returned v ∧ Q_rm_sI Z a1 i1 v1 i t1 vals h0 n0 v U'.heap L ∧ FrameEnd U o U' L ({ frames := 0, cells := 0, slots := 0, locals := 0 } : Room).cells ({ frames := 0, cells := 0, slots := 0, locals := 0 } : Room).slots) := by
  refine MetFree.of_bodySF (plainFor_of_name pn_0) hisR ?_
  intro p e s m args below meth c s₁ Bd hml0 hP hK
  obtain ⟨rfl, hZ, hh⟩ := hP
  have hx := Bd.exec
  have hby := Bd.bytes
  have hml : c.maxLocals = 3 := hml0
  have hown : s.vm.findClass "com/example/joinery/joinery/NarrowInts" = some m.cls := findClass_of_methodNamed Bd.named
  have hnm := (name_of_methodNamed Bd.named Bd.method).1
  have X0 : Stand p l e ({ frames := 0, cells := 0, slots := 0, locals := 0 } : Room) s m #[(.ref a1), (.int i1), (.int v1)] below meth c s₁ [] 0 0 := Stand.of_body Bd
  have e0 : s₁.heap = h0 := by rw [← hh, Bd.state]; rfl
  have N0 := Fr.nil n0
  have pre0 : ∀ t, Steps p.tables e below (s₁.setTop (mkF m 0 #[.val (.ref a1), .val (.int i1), .val (.int v1)] [])) t → Steps p.tables e below (s₁.setTop (entryFrame m #[(.ref a1), (.int i1), (.int v1)] 3)) t := fun t k => castTop (ef_rm_sI m a1 i1 v1) k
  have S423 : ∀ t, Steps p.tables e below (s₁.setTop (mkF m 1 #[.val (.ref a1), .val (.int i1), .val (.int v1)] [(.ref a1)])) t → Steps p.tables e below (s₁.setTop (mkF m 0 #[.val (.ref a1), .val (.int i1), .val (.int v1)] [])) t := by
    intro t kt
    show Steps p.tables e below (s₁.setTop (mkF m 0 #[.val (.ref a1), .val (.int i1), .val (.int v1)] [])) _
    refine XS.aloadN X0.here hx rfl (hb hby d3_0) rfl rfl ?_
    exact kt
  obtain ⟨T424, X424, e424, st424⟩ := getF X0 hx hZ hown (host := "") (Or.inl (hw _ (List.mem_of_getElem? (i := 12) rfl))) Via.refl e0 F419 (g := (mkF m 1 #[.val (.ref a1), .val (.int i1), .val (.int v1)] [(.ref a1)])) rfl rfl (hb hby d3_1)
  have S425 : ∀ t, Steps p.tables e below (T424.setTop (mkF m 30 #[.val (.ref a1), .val (.int i1), .val (.int v1)] [(.ref a1)])) t → Steps p.tables e below (T424.setTop (mkF m 4 #[.val (.ref a1), .val (.int i1), .val (.int v1)] [.null])) t := by
    intro t kt
    show Steps p.tables e below (T424.setTop (mkF m 4 #[.val (.ref a1), .val (.int i1), .val (.int v1)] [.null])) _
    refine XS.ifnullYes X424.here hx rfl (pc0 := 4) (pc' := 29) rfl (hb hby d3_4) rfl (by decide) (by decide) ?_
    show Steps p.tables e below (T424.setTop (mkF m 29 #[.val (.ref a1), .val (.int i1), .val (.int v1)] [])) _
    refine XS.aloadN X424.here hx rfl (hb hby d3_29) rfl rfl ?_
    exact kt
  obtain ⟨T426, X426, e426, st426⟩ := getF X424 hx hZ hown (host := "") (Or.inl (hw _ (List.mem_of_getElem? (i := 24) rfl))) Via.refl e424 F420 (g := (mkF m 30 #[.val (.ref a1), .val (.int i1), .val (.int v1)] [(.ref a1)])) rfl rfl (hb hby d3_30)
  have S427 : ∀ t, Steps p.tables e below (T426.setTop (mkF m 58 #[.val (.ref a1), .val (.int i1), .val (.int v1)] [(.ref a1)])) t → Steps p.tables e below (T426.setTop (mkF m 33 #[.val (.ref a1), .val (.int i1), .val (.int v1)] [.null])) t := by
    intro t kt
    show Steps p.tables e below (T426.setTop (mkF m 33 #[.val (.ref a1), .val (.int i1), .val (.int v1)] [.null])) _
    refine XS.ifnullYes X426.here hx rfl (pc0 := 33) (pc' := 57) rfl (hb hby d3_33) rfl (by decide) (by decide) ?_
    show Steps p.tables e below (T426.setTop (mkF m 57 #[.val (.ref a1), .val (.int i1), .val (.int v1)] [])) _
    refine XS.aloadN X426.here hx rfl (hb hby d3_57) rfl rfl ?_
    exact kt
  obtain ⟨T428, X428, e428, st428⟩ := getF X426 hx hZ hown (host := "") (Or.inl (hw _ (List.mem_of_getElem? (i := 26) rfl))) Via.refl e426 F421 (g := (mkF m 58 #[.val (.ref a1), .val (.int i1), .val (.int v1)] [(.ref a1)])) rfl rfl (hb hby d3_58)
  have S429 : ∀ t, Steps p.tables e below (T428.setTop (mkF m 65 #[.val (.ref a1), .val (.int i1), .val (.int v1)] [(.ref a1)])) t → Steps p.tables e below (T428.setTop (mkF m 61 #[.val (.ref a1), .val (.int i1), .val (.int v1)] [(.ref t1)])) t := by
    intro t kt
    show Steps p.tables e below (T428.setTop (mkF m 61 #[.val (.ref a1), .val (.int i1), .val (.int v1)] [(.ref t1)])) _
    refine XS.ifnullNo X428.here hx rfl (hb hby d3_61) rfl ?_
    show Steps p.tables e below (T428.setTop (mkF m 64 #[.val (.ref a1), .val (.int i1), .val (.int v1)] [])) _
    refine XS.aloadN X428.here hx rfl (hb hby d3_64) rfl rfl ?_
    exact kt
  obtain ⟨T430, X430, e430, st430⟩ := getF X428 hx hZ hown (host := "") (Or.inl (hw _ (List.mem_of_getElem? (i := 26) rfl))) Via.refl e428 F421 (g := (mkF m 65 #[.val (.ref a1), .val (.int i1), .val (.int v1)] [(.ref a1)])) rfl rfl (hb hby d3_65)
  have S431 : ∀ t, Steps p.tables e below (T430.setTop (mkF m 70 #[.val (.ref a1), .val (.int i1), .val (.int v1)] [(.int v1), (.int i1), (.ref t1)])) t → Steps p.tables e below (T430.setTop (mkF m 68 #[.val (.ref a1), .val (.int i1), .val (.int v1)] [(.ref t1)])) t := by
    intro t kt
    show Steps p.tables e below (T430.setTop (mkF m 68 #[.val (.ref a1), .val (.int i1), .val (.int v1)] [(.ref t1)])) _
    refine XS.iloadN X430.here hx rfl (hb hby d3_68) rfl ?_
    show Steps p.tables e below (T430.setTop (mkF m 69 #[.val (.ref a1), .val (.int i1), .val (.int v1)] [(.int i1), (.ref t1)])) _
    refine XS.iloadN X430.here hx rfl (hb hby d3_69) rfl ?_
    exact kt
  obtain ⟨T432, h432, X432, e432, W432, V432, st432⟩ := ArF.stI X430 hx hZ e430 F422 (i := i) hi.1 hi.2 (g := (mkF m 70 #[.val (.ref a1), .val (.int i1), .val (.int v1)] [(.int v1), (.int i1), (.ref t1)])) rfl rfl (hb hby d3_70)
  have z433 : n0 ≤ h432.size := Nat.le_trans Z0 (Keep.of_wr W432).1
  have N434 := Fr.snoc X432 N0 g_t1
  have V432' := V432.congr (f' := (fun q => (.int (own_put vals i v1 q)))) (own_setV rfl)
  have S435 : ∀ t, Steps p.tables e below (T432.setTop (mkF m 85 #[.val (.ref a1), .val (.int i1), .val (.int v1)] [])) t → Steps p.tables e below (T432.setTop (mkF m 71 #[.val (.ref a1), .val (.int i1), .val (.int v1)] [])) t := by
    intro t kt
    show Steps p.tables e below (T432.setTop (mkF m 71 #[.val (.ref a1), .val (.int i1), .val (.int v1)] [])) _
    refine XS.goto X432.here hx rfl (pc0 := 71) (pc' := 85) rfl (hb hby d3_71) (by decide) (by decide) ?_
    exact kt
  have C436 : ∀ t, Steps p.tables e below (T432.setTop (mkF m 85 #[.val (.ref a1), .val (.int i1), .val (.int v1)] [])) t → Steps p.tables e below (s₁.setTop (mkF m 0 #[.val (.ref a1), .val (.int i1), .val (.int v1)] [])) t := (fun t k => (S423 t (st424 t (S425 t (st426 t (S427 t (st428 t (S429 t (st430 t (S431 t (st432 t (S435 t k))))))))))))
  obtain ⟨fs, hr, hrun, hended, hW, hsame⟩ := X432.leave (v := none) (fun _ => rfl)
  refine ⟨_, _, pre0 _ (C436 _ ?_), hrun, hended, _, _, rfl, ?_, ⟨_, rfl⟩, hW, hsame.mono (by decide) (by decide)⟩
  · exact X432.returnOut hx Bd.returns (hb hby d3_85) hr
  · show Q_rm_sI Z a1 i1 v1 i t1 vals h0 n0 _ T432.heap _
    rw [e432]
    have f437 := (F417.wr W432)
    have f438 := (F418.other W432 (Or.inl ne_a1_t1))
    have f439 := (F419.other W432 (Or.inl ne_a1_t1))
    have f440 := (F420.other W432 (Or.inl ne_a1_t1))
    have f441 := (F421.other W432 (Or.inl ne_a1_t1))
    exact ⟨rfl, N434, z433, (Or.inr (Or.inr ⟨t1, ⟨g_a1, g_t1, ne_a1_t1, f437, f438⟩, f439, f440, f441, V432'⟩))⟩
theorem ef_rm_sC (m : MethodId) (x0 : Addr) (x1 : Int32) (x2 : Int32) : entryFrame m #[(.ref x0), (.int x1), (.int x2)] 3 = mkF m 0 #[.val (.ref x0), .val (.int x1), .val (.int x2)] [] := by first | (simp [entryFrame, mkF, argsToLocals, Value.category]; done) | rfl
def Q_rm_sC (Z : State) (a1 : Addr) (i1 : Int32) (v1 : Int32) (i : Nat) (t1 : Addr) (vals : Nat → Int32) (h0 : Heap) (n0 : Nat) (v : Option Value) (h : Heap) (L : List Loc) : Prop := v = none ∧ Fr n0 L ∧ n0 ≤ h.size ∧ own_NI Z h n0 a1 (own_put vals i v1)
set_option maxRecDepth 65536 in
set_option maxHeartbeats 40000000 in
theorem rm_sC (l : Launch) (Z : State) (a0 : Array Value) (hw : ∀ d ∈ tables_1, d.before a0 Z = true) (ws : List Jvm.Cond) (a1 : Addr) (i1 : Int32) (v1 : Int32) (i : Nat) (t1 : Addr) (vals : Nat → Int32) (h0 : Heap) (n0 : Nat) (Z0 : n0 ≤ h0.size) (F442 : Exa Z h0 a1 "com/example/joinery/joinery/NarrowInts") (F443 : Fld Z h0 a1 "com/example/joinery/joinery/NarrowInts" "capacity" "I" (.int (4 : Int32))) (F444 : Fld Z h0 a1 "com/example/joinery/joinery/NarrowInts" "bytes" "[B" .null) (F445 : Fld Z h0 a1 "com/example/joinery/joinery/NarrowInts" "chars" "[C" (.ref t1)) (F446 : Fld Z h0 a1 "com/example/joinery/joinery/NarrowInts" "ints" "[I" .null) (F447 : ArF Z h0 t1 .char 4 (fun q => (.int (vals q)))) (g_a1 : n0 ≤ a1) (g_t1 : n0 ≤ t1) (ne_a1_t1 : a1 ≠ t1) (hi : i1.toInt = (i : Int) ∧ i < 4) (hrg : ∀ i, i < 4 → own_char (vals i)) :
    MetFree l (⟨"com/example/joinery/joinery/NarrowInts", "set", "(II)V"⟩ : MethodName) (head1 (Jvm.Cond.code (⟨"com/example/joinery/joinery/NarrowInts", "set", "(II)V"⟩ : MethodName) prog_31_method_4_code 3 none :: ws) ({ frames := 1, cells := 1, slots := 4, locals := 14 } : Room)) (fun a U => a = #[(.ref a1), (.int i1), (.int v1)] ∧ Z.Warmed39 U.vm ∧ U.heap = h0) (fun _ _ _ _ _ => True) (fun _ U o U' => ∃ v L, o = .returned v ∧ Q_rm_sC Z a1 i1 v1 i t1 vals h0 n0 v U'.heap L ∧ FrameEnd U o U' L ({ frames := 1, cells := 1, slots := 4, locals := 14 } : Room).cells ({ frames := 1, cells := 1, slots := 4, locals := 14 } : Room).slots) := by
  refine MetFree.of_bodySF (plainFor_of_name pn_0) hisR ?_
  intro p e s m args below meth c s₁ Bd hml0 hP hK
  obtain ⟨rfl, hZ, hh⟩ := hP
  have hx := Bd.exec
  have hby := Bd.bytes
  have hml : c.maxLocals = 3 := hml0
  have hown : s.vm.findClass "com/example/joinery/joinery/NarrowInts" = some m.cls := findClass_of_methodNamed Bd.named
  have hnm := (name_of_methodNamed Bd.named Bd.method).1
  have X0 : Stand p l e ({ frames := 1, cells := 1, slots := 4, locals := 14 } : Room) s m #[(.ref a1), (.int i1), (.int v1)] below meth c s₁ [] 0 0 := Stand.of_body Bd
  have e0 : s₁.heap = h0 := by rw [← hh, Bd.state]; rfl
  have N0 := Fr.nil n0
  have pre0 : ∀ t, Steps p.tables e below (s₁.setTop (mkF m 0 #[.val (.ref a1), .val (.int i1), .val (.int v1)] [])) t → Steps p.tables e below (s₁.setTop (entryFrame m #[(.ref a1), (.int i1), (.int v1)] 3)) t := fun t k => castTop (ef_rm_sC m a1 i1 v1) k
  have S448 : ∀ t, Steps p.tables e below (s₁.setTop (mkF m 1 #[.val (.ref a1), .val (.int i1), .val (.int v1)] [(.ref a1)])) t → Steps p.tables e below (s₁.setTop (mkF m 0 #[.val (.ref a1), .val (.int i1), .val (.int v1)] [])) t := by
    intro t kt
    show Steps p.tables e below (s₁.setTop (mkF m 0 #[.val (.ref a1), .val (.int i1), .val (.int v1)] [])) _
    refine XS.aloadN X0.here hx rfl (hb hby d3_0) rfl rfl ?_
    exact kt
  obtain ⟨T449, X449, e449, st449⟩ := getF X0 hx hZ hown (host := "") (Or.inl (hw _ (List.mem_of_getElem? (i := 12) rfl))) Via.refl e0 F444 (g := (mkF m 1 #[.val (.ref a1), .val (.int i1), .val (.int v1)] [(.ref a1)])) rfl rfl (hb hby d3_1)
  have S450 : ∀ t, Steps p.tables e below (T449.setTop (mkF m 30 #[.val (.ref a1), .val (.int i1), .val (.int v1)] [(.ref a1)])) t → Steps p.tables e below (T449.setTop (mkF m 4 #[.val (.ref a1), .val (.int i1), .val (.int v1)] [.null])) t := by
    intro t kt
    show Steps p.tables e below (T449.setTop (mkF m 4 #[.val (.ref a1), .val (.int i1), .val (.int v1)] [.null])) _
    refine XS.ifnullYes X449.here hx rfl (pc0 := 4) (pc' := 29) rfl (hb hby d3_4) rfl (by decide) (by decide) ?_
    show Steps p.tables e below (T449.setTop (mkF m 29 #[.val (.ref a1), .val (.int i1), .val (.int v1)] [])) _
    refine XS.aloadN X449.here hx rfl (hb hby d3_29) rfl rfl ?_
    exact kt
  obtain ⟨T451, X451, e451, st451⟩ := getF X449 hx hZ hown (host := "") (Or.inl (hw _ (List.mem_of_getElem? (i := 24) rfl))) Via.refl e449 F445 (g := (mkF m 30 #[.val (.ref a1), .val (.int i1), .val (.int v1)] [(.ref a1)])) rfl rfl (hb hby d3_30)
  have S452 : ∀ t, Steps p.tables e below (T451.setTop (mkF m 37 #[.val (.ref a1), .val (.int i1), .val (.int v1)] [(.int v1)])) t → Steps p.tables e below (T451.setTop (mkF m 33 #[.val (.ref a1), .val (.int i1), .val (.int v1)] [(.ref t1)])) t := by
    intro t kt
    show Steps p.tables e below (T451.setTop (mkF m 33 #[.val (.ref a1), .val (.int i1), .val (.int v1)] [(.ref t1)])) _
    refine XS.ifnullNo X451.here hx rfl (hb hby d3_33) rfl ?_
    show Steps p.tables e below (T451.setTop (mkF m 36 #[.val (.ref a1), .val (.int i1), .val (.int v1)] [])) _
    refine XS.iloadN X451.here hx rfl (hb hby d3_36) rfl ?_
    exact kt
  by_cases hc453 : v1 < (0 : Int32)
  · have S454 : ∀ t, Steps p.tables e below (T451.setTop (mkF m 58 #[.val (.ref a1), .val (.int i1), .val (.int v1)] [(.ref a1)])) t → Steps p.tables e below (T451.setTop (mkF m 37 #[.val (.ref a1), .val (.int i1), .val (.int v1)] [(.int v1)])) t := by
      intro t kt
      show Steps p.tables e below (T451.setTop (mkF m 37 #[.val (.ref a1), .val (.int i1), .val (.int v1)] [(.int v1)])) _
      refine XS.ifYes X451.here hx rfl (pc0 := 37) (pc' := 57) rfl (hb hby d3_37) rfl ((if0 _ _).trans (tlt hc453).1) (by decide) (by decide) ?_
      show Steps p.tables e below (T451.setTop (mkF m 57 #[.val (.ref a1), .val (.int i1), .val (.int v1)] [])) _
      refine XS.aloadN X451.here hx rfl (hb hby d3_57) rfl rfl ?_
      exact kt
    obtain ⟨T455, X455, e455, st455⟩ := getF X451 hx hZ hown (host := "") (Or.inl (hw _ (List.mem_of_getElem? (i := 26) rfl))) Via.refl e451 F446 (g := (mkF m 58 #[.val (.ref a1), .val (.int i1), .val (.int v1)] [(.ref a1)])) rfl rfl (hb hby d3_58)
    have S456 : ∀ t, Steps p.tables e below (T455.setTop (mkF m 76 #[.val (.ref a1), .val (.int i1), .val (.int v1)] [(.int v1), (.ref a1)])) t → Steps p.tables e below (T455.setTop (mkF m 61 #[.val (.ref a1), .val (.int i1), .val (.int v1)] [.null])) t := by
      intro t kt
      show Steps p.tables e below (T455.setTop (mkF m 61 #[.val (.ref a1), .val (.int i1), .val (.int v1)] [.null])) _
      refine XS.ifnullYes X455.here hx rfl (pc0 := 61) (pc' := 74) rfl (hb hby d3_61) rfl (by decide) (by decide) ?_
      show Steps p.tables e below (T455.setTop (mkF m 74 #[.val (.ref a1), .val (.int i1), .val (.int v1)] [])) _
      refine XS.aloadN X455.here hx rfl (hb hby d3_74) rfl rfl ?_
      show Steps p.tables e below (T455.setTop (mkF m 75 #[.val (.ref a1), .val (.int i1), .val (.int v1)] [(.ref a1)])) _
      refine XS.iloadN X455.here hx rfl (hb hby d3_75) rfl ?_
      exact kt
    obtain ⟨cq457, q457, q457'⟩ := F442.cell
    obtain ⟨_, _, ⟨T457, L457, k457, n457⟩, -, X457, ⟨Lc457, hQ457, l457, y457, z457⟩, st457⟩ := X455.privateBack hx (y := (⟨"com/example/joinery/joinery/NarrowInts", "widenFor", "(I)V"⟩ : MethodName)) hown (mvT hZ (hw _ (List.mem_of_getElem? (i := 28) rfl))) (mvT hZ (hw _ (List.mem_of_getElem? (i := 29) rfl))) (own_selP hZ (hw _ (List.mem_of_getElem? (i := 1) rfl)) (hw _ (List.mem_of_getElem? (i := 30) rfl)) (hw _ (List.mem_of_getElem? (i := 29) rfl)) (by decide)) (Cond.privateMethod_at (mvP hZ (hw _ (List.mem_of_getElem? (i := 30) rfl)) (args := #[]))) (mvT hZ (hw _ (List.mem_of_getElem? (i := 31) rfl))) (by decide) (backOf (W := 0) (rm_wCI l Z a0 hw [] a1 v1 t1 vals h0 n0 Z0 F442 F443 F444 F445 F446 F447 g_a1 g_t1 ne_a1_t1) hZ (hw _ (List.mem_of_getElem? (i := 31) rfl)) (hw _ (List.mem_of_getElem? (i := 2) rfl)) (by decide) (by decide)) (g := (mkF m 76 #[.val (.ref a1), .val (.int i1), .val (.int v1)] [(.int v1), (.ref a1)])) rfl (by rw [hml]; rfl) (Steps.refl _) (a := a1) (by rw [e455]; exact q457) q457' (argsL := [(.int v1)]) (rest := []) (lenOf pd_0 rfl) rfl (by show 2 * 0 + _ ≤ _; exact Nat.le_of_eq rfl) (hb hby d3_76) (fun _ _ => ⟨rfl, e455, (by decide : 0 + 1 ≤ _), (by decide : 0 + 4 ≤ _)⟩)
    dsimp only [Pt.U, Pt.locs, Pt.cells, Pt.slots] at X457 l457 y457 z457 st457 hQ457
    subst l457 y457 z457
    obtain ⟨h457, e457⟩ : ∃ z, T457.heap = z := ⟨_, rfl⟩
    rw [e457] at hQ457
    obtain ⟨rfl, N457q, z458, hW_⟩ := hQ457
    have N457 := Fr.app N0 N457q
    obtain ⟨t459, ⟨-, g_t459, ne_a1_t459, F460, F461⟩, F462, F463, F464, F465⟩ := hW_
    have S466 : ∀ t, Steps p.tables e below (T457.setTop (mkF m 82 #[.val (.ref a1), .val (.int i1), .val (.int v1)] [(.int v1), (.int i1), (.ref a1)])) t → Steps p.tables e below (T457.setTop (mkF m 79 #[.val (.ref a1), .val (.int i1), .val (.int v1)] [])) t := by
      intro t kt
      show Steps p.tables e below (T457.setTop (mkF m 79 #[.val (.ref a1), .val (.int i1), .val (.int v1)] [])) _
      refine XS.aloadN X457.here hx rfl (hb hby d3_79) rfl rfl ?_
      show Steps p.tables e below (T457.setTop (mkF m 80 #[.val (.ref a1), .val (.int i1), .val (.int v1)] [(.ref a1)])) _
      refine XS.iloadN X457.here hx rfl (hb hby d3_80) rfl ?_
      show Steps p.tables e below (T457.setTop (mkF m 81 #[.val (.ref a1), .val (.int i1), .val (.int v1)] [(.int i1), (.ref a1)])) _
      refine XS.iloadN X457.here hx rfl (hb hby d3_81) rfl ?_
      exact kt
    obtain ⟨cq467, kq467, q467a, q467b, q467c⟩ := isOf hZ e457 F460
    obtain ⟨_, _, ⟨T467, L467, k467, n467⟩, -, X467, ⟨Lc467, hQ467, l467, y467, z467⟩, st467⟩ := X457.virtualBack hx (y := (⟨"com/example/joinery/joinery/NarrowInts", "set", "(II)V"⟩ : MethodName)) (z := (⟨"com/example/joinery/joinery/NarrowInts", "set", "(II)V"⟩ : MethodName)) hown (mvT hZ (hw _ (List.mem_of_getElem? (i := 34) rfl))) (mvT hZ (hw _ (List.mem_of_getElem? (i := 15) rfl))) (notFace_of_selects (args := #[]) (mvT hZ (hw _ (List.mem_of_getElem? (i := 17) rfl)))) (mvT hZ (hw _ (List.mem_of_getElem? (i := 17) rfl))) (mvT hZ (hw _ (List.mem_of_getElem? (i := 16) rfl))) (by decide) (backOf (W := 0) (rm_sI l Z a0 hw [] a1 i1 v1 i t459 vals h457 n0 z458 F460 F461 F462 F463 F464 F465 g_a1 g_t459 ne_a1_t459 hi) hZ (hw _ (List.mem_of_getElem? (i := 18) rfl)) (hw _ (List.mem_of_getElem? (i := 2) rfl)) (by decide) (by decide)) q467a q467c (g := (mkF m 82 #[.val (.ref a1), .val (.int i1), .val (.int v1)] [(.int v1), (.int i1), (.ref a1)])) rfl (by rw [hml]; rfl) (Steps.refl _) (argsL := [(.int i1), (.int v1)]) (rest := []) (lenOf pd_1 rfl) rfl (by show 2 * 0 + _ ≤ _; exact Nat.le_of_eq rfl) (hb hby d3_82) (fun _ _ => ⟨rfl, e457, (by decide : 1 + 0 ≤ _), (by decide : 4 + 0 ≤ _)⟩)
    dsimp only [Pt.U, Pt.locs, Pt.cells, Pt.slots] at X467 l467 y467 z467 st467 hQ467
    subst l467 y467 z467
    obtain ⟨h467, e467⟩ : ∃ z, T467.heap = z := ⟨_, rfl⟩
    rw [e467] at hQ467
    obtain ⟨rfl, N467q, z468, hV_⟩ := hQ467
    have N467 := Fr.app N457 N467q
    have C469 : ∀ t, Steps p.tables e below (T467.setTop (mkF m 85 #[.val (.ref a1), .val (.int i1), .val (.int v1)] [])) t → Steps p.tables e below (s₁.setTop (mkF m 0 #[.val (.ref a1), .val (.int i1), .val (.int v1)] [])) t := (fun t k => (S448 t (st449 t (S450 t (st451 t (S452 t (S454 t (st455 t (S456 t (st457.trans (S466 t (st467.trans k))))))))))))
    obtain ⟨fs, hr, hrun, hended, hW, hsame⟩ := X467.leave (v := none) (fun _ => rfl)
    refine ⟨_, _, pre0 _ (C469 _ ?_), hrun, hended, _, _, rfl, ?_, ⟨_, rfl⟩, hW, hsame.mono (by decide) (by decide)⟩
    · exact X467.returnOut hx Bd.returns (hb hby d3_85) hr
    · show Q_rm_sC Z a1 i1 v1 i t1 vals h0 n0 _ T467.heap _
      rw [e467]
      exact ⟨rfl, N467, z468, hV_⟩
  · have S470 : ∀ t, Steps p.tables e below (T451.setTop (mkF m 43 #[.val (.ref a1), .val (.int i1), .val (.int v1)] [(.int (65535 : Int32)), (.int v1)])) t → Steps p.tables e below (T451.setTop (mkF m 37 #[.val (.ref a1), .val (.int i1), .val (.int v1)] [(.int v1)])) t := by
      intro t kt
      show Steps p.tables e below (T451.setTop (mkF m 37 #[.val (.ref a1), .val (.int i1), .val (.int v1)] [(.int v1)])) _
      refine XS.ifNo X451.here hx rfl (hb hby d3_37) rfl ((if0 _ _).trans (flt hc453).1) ?_
      show Steps p.tables e below (T451.setTop (mkF m 40 #[.val (.ref a1), .val (.int i1), .val (.int v1)] [])) _
      refine XS.iloadN X451.here hx rfl (hb hby d3_40) rfl ?_
      show Steps p.tables e below (T451.setTop (mkF m 41 #[.val (.ref a1), .val (.int i1), .val (.int v1)] [(.int v1)])) _
      refine X451.ldcInt hx hown (mvT hZ (hw _ (List.mem_of_getElem? (i := 32) rfl))) (g := (mkF m 41 #[.val (.ref a1), .val (.int i1), .val (.int v1)] [(.int v1)])) rfl (hb hby d3_41) _ ?_
      exact kt
    by_cases hc471 : (65535 : Int32) < v1
    · have S472 : ∀ t, Steps p.tables e below (T451.setTop (mkF m 58 #[.val (.ref a1), .val (.int i1), .val (.int v1)] [(.ref a1)])) t → Steps p.tables e below (T451.setTop (mkF m 43 #[.val (.ref a1), .val (.int i1), .val (.int v1)] [(.int (65535 : Int32)), (.int v1)])) t := by
        intro t kt
        show Steps p.tables e below (T451.setTop (mkF m 43 #[.val (.ref a1), .val (.int i1), .val (.int v1)] [(.int (65535 : Int32)), (.int v1)])) _
        refine XS.icmpYes X451.here hx rfl (pc0 := 43) (pc' := 57) rfl (hb hby d3_43) rfl (tlt hc471).2.2.1 (by decide) (by decide) ?_
        show Steps p.tables e below (T451.setTop (mkF m 57 #[.val (.ref a1), .val (.int i1), .val (.int v1)] [])) _
        refine XS.aloadN X451.here hx rfl (hb hby d3_57) rfl rfl ?_
        exact kt
      obtain ⟨T473, X473, e473, st473⟩ := getF X451 hx hZ hown (host := "") (Or.inl (hw _ (List.mem_of_getElem? (i := 26) rfl))) Via.refl e451 F446 (g := (mkF m 58 #[.val (.ref a1), .val (.int i1), .val (.int v1)] [(.ref a1)])) rfl rfl (hb hby d3_58)
      have S474 : ∀ t, Steps p.tables e below (T473.setTop (mkF m 76 #[.val (.ref a1), .val (.int i1), .val (.int v1)] [(.int v1), (.ref a1)])) t → Steps p.tables e below (T473.setTop (mkF m 61 #[.val (.ref a1), .val (.int i1), .val (.int v1)] [.null])) t := by
        intro t kt
        show Steps p.tables e below (T473.setTop (mkF m 61 #[.val (.ref a1), .val (.int i1), .val (.int v1)] [.null])) _
        refine XS.ifnullYes X473.here hx rfl (pc0 := 61) (pc' := 74) rfl (hb hby d3_61) rfl (by decide) (by decide) ?_
        show Steps p.tables e below (T473.setTop (mkF m 74 #[.val (.ref a1), .val (.int i1), .val (.int v1)] [])) _
        refine XS.aloadN X473.here hx rfl (hb hby d3_74) rfl rfl ?_
        show Steps p.tables e below (T473.setTop (mkF m 75 #[.val (.ref a1), .val (.int i1), .val (.int v1)] [(.ref a1)])) _
        refine XS.iloadN X473.here hx rfl (hb hby d3_75) rfl ?_
        exact kt
      obtain ⟨cq475, q475, q475'⟩ := F442.cell
      obtain ⟨_, _, ⟨T475, L475, k475, n475⟩, -, X475, ⟨Lc475, hQ475, l475, y475, z475⟩, st475⟩ := X473.privateBack hx (y := (⟨"com/example/joinery/joinery/NarrowInts", "widenFor", "(I)V"⟩ : MethodName)) hown (mvT hZ (hw _ (List.mem_of_getElem? (i := 28) rfl))) (mvT hZ (hw _ (List.mem_of_getElem? (i := 29) rfl))) (own_selP hZ (hw _ (List.mem_of_getElem? (i := 1) rfl)) (hw _ (List.mem_of_getElem? (i := 30) rfl)) (hw _ (List.mem_of_getElem? (i := 29) rfl)) (by decide)) (Cond.privateMethod_at (mvP hZ (hw _ (List.mem_of_getElem? (i := 30) rfl)) (args := #[]))) (mvT hZ (hw _ (List.mem_of_getElem? (i := 31) rfl))) (by decide) (backOf (W := 0) (rm_wCI l Z a0 hw [] a1 v1 t1 vals h0 n0 Z0 F442 F443 F444 F445 F446 F447 g_a1 g_t1 ne_a1_t1) hZ (hw _ (List.mem_of_getElem? (i := 31) rfl)) (hw _ (List.mem_of_getElem? (i := 2) rfl)) (by decide) (by decide)) (g := (mkF m 76 #[.val (.ref a1), .val (.int i1), .val (.int v1)] [(.int v1), (.ref a1)])) rfl (by rw [hml]; rfl) (Steps.refl _) (a := a1) (by rw [e473]; exact q475) q475' (argsL := [(.int v1)]) (rest := []) (lenOf pd_0 rfl) rfl (by show 2 * 0 + _ ≤ _; exact Nat.le_of_eq rfl) (hb hby d3_76) (fun _ _ => ⟨rfl, e473, (by decide : 0 + 1 ≤ _), (by decide : 0 + 4 ≤ _)⟩)
      dsimp only [Pt.U, Pt.locs, Pt.cells, Pt.slots] at X475 l475 y475 z475 st475 hQ475
      subst l475 y475 z475
      obtain ⟨h475, e475⟩ : ∃ z, T475.heap = z := ⟨_, rfl⟩
      rw [e475] at hQ475
      obtain ⟨rfl, N475q, z476, hW_⟩ := hQ475
      have N475 := Fr.app N0 N475q
      obtain ⟨t477, ⟨-, g_t477, ne_a1_t477, F478, F479⟩, F480, F481, F482, F483⟩ := hW_
      have S484 : ∀ t, Steps p.tables e below (T475.setTop (mkF m 82 #[.val (.ref a1), .val (.int i1), .val (.int v1)] [(.int v1), (.int i1), (.ref a1)])) t → Steps p.tables e below (T475.setTop (mkF m 79 #[.val (.ref a1), .val (.int i1), .val (.int v1)] [])) t := by
        intro t kt
        show Steps p.tables e below (T475.setTop (mkF m 79 #[.val (.ref a1), .val (.int i1), .val (.int v1)] [])) _
        refine XS.aloadN X475.here hx rfl (hb hby d3_79) rfl rfl ?_
        show Steps p.tables e below (T475.setTop (mkF m 80 #[.val (.ref a1), .val (.int i1), .val (.int v1)] [(.ref a1)])) _
        refine XS.iloadN X475.here hx rfl (hb hby d3_80) rfl ?_
        show Steps p.tables e below (T475.setTop (mkF m 81 #[.val (.ref a1), .val (.int i1), .val (.int v1)] [(.int i1), (.ref a1)])) _
        refine XS.iloadN X475.here hx rfl (hb hby d3_81) rfl ?_
        exact kt
      obtain ⟨cq485, kq485, q485a, q485b, q485c⟩ := isOf hZ e475 F478
      obtain ⟨_, _, ⟨T485, L485, k485, n485⟩, -, X485, ⟨Lc485, hQ485, l485, y485, z485⟩, st485⟩ := X475.virtualBack hx (y := (⟨"com/example/joinery/joinery/NarrowInts", "set", "(II)V"⟩ : MethodName)) (z := (⟨"com/example/joinery/joinery/NarrowInts", "set", "(II)V"⟩ : MethodName)) hown (mvT hZ (hw _ (List.mem_of_getElem? (i := 34) rfl))) (mvT hZ (hw _ (List.mem_of_getElem? (i := 15) rfl))) (notFace_of_selects (args := #[]) (mvT hZ (hw _ (List.mem_of_getElem? (i := 17) rfl)))) (mvT hZ (hw _ (List.mem_of_getElem? (i := 17) rfl))) (mvT hZ (hw _ (List.mem_of_getElem? (i := 16) rfl))) (by decide) (backOf (W := 0) (rm_sI l Z a0 hw [] a1 i1 v1 i t477 vals h475 n0 z476 F478 F479 F480 F481 F482 F483 g_a1 g_t477 ne_a1_t477 hi) hZ (hw _ (List.mem_of_getElem? (i := 18) rfl)) (hw _ (List.mem_of_getElem? (i := 2) rfl)) (by decide) (by decide)) q485a q485c (g := (mkF m 82 #[.val (.ref a1), .val (.int i1), .val (.int v1)] [(.int v1), (.int i1), (.ref a1)])) rfl (by rw [hml]; rfl) (Steps.refl _) (argsL := [(.int i1), (.int v1)]) (rest := []) (lenOf pd_1 rfl) rfl (by show 2 * 0 + _ ≤ _; exact Nat.le_of_eq rfl) (hb hby d3_82) (fun _ _ => ⟨rfl, e475, (by decide : 1 + 0 ≤ _), (by decide : 4 + 0 ≤ _)⟩)
      dsimp only [Pt.U, Pt.locs, Pt.cells, Pt.slots] at X485 l485 y485 z485 st485 hQ485
      subst l485 y485 z485
      obtain ⟨h485, e485⟩ : ∃ z, T485.heap = z := ⟨_, rfl⟩
      rw [e485] at hQ485
      obtain ⟨rfl, N485q, z486, hV_⟩ := hQ485
      have N485 := Fr.app N475 N485q
      have C487 : ∀ t, Steps p.tables e below (T485.setTop (mkF m 85 #[.val (.ref a1), .val (.int i1), .val (.int v1)] [])) t → Steps p.tables e below (s₁.setTop (mkF m 0 #[.val (.ref a1), .val (.int i1), .val (.int v1)] [])) t := (fun t k => (S448 t (st449 t (S450 t (st451 t (S452 t (S470 t (S472 t (st473 t (S474 t (st475.trans (S484 t (st485.trans k)))))))))))))
      obtain ⟨fs, hr, hrun, hended, hW, hsame⟩ := X485.leave (v := none) (fun _ => rfl)
      refine ⟨_, _, pre0 _ (C487 _ ?_), hrun, hended, _, _, rfl, ?_, ⟨_, rfl⟩, hW, hsame.mono (by decide) (by decide)⟩
      · exact X485.returnOut hx Bd.returns (hb hby d3_85) hr
      · show Q_rm_sC Z a1 i1 v1 i t1 vals h0 n0 _ T485.heap _
        rw [e485]
        exact ⟨rfl, N485, z486, hV_⟩
    · have S488 : ∀ t, Steps p.tables e below (T451.setTop (mkF m 47 #[.val (.ref a1), .val (.int i1), .val (.int v1)] [(.ref a1)])) t → Steps p.tables e below (T451.setTop (mkF m 43 #[.val (.ref a1), .val (.int i1), .val (.int v1)] [(.int (65535 : Int32)), (.int v1)])) t := by
        intro t kt
        show Steps p.tables e below (T451.setTop (mkF m 43 #[.val (.ref a1), .val (.int i1), .val (.int v1)] [(.int (65535 : Int32)), (.int v1)])) _
        refine XS.icmpNo X451.here hx rfl (hb hby d3_43) rfl (flt hc471).2.2.1 ?_
        show Steps p.tables e below (T451.setTop (mkF m 46 #[.val (.ref a1), .val (.int i1), .val (.int v1)] [])) _
        refine XS.aloadN X451.here hx rfl (hb hby d3_46) rfl rfl ?_
        exact kt
      obtain ⟨T489, X489, e489, st489⟩ := getF X451 hx hZ hown (host := "") (Or.inl (hw _ (List.mem_of_getElem? (i := 24) rfl))) Via.refl e451 F445 (g := (mkF m 47 #[.val (.ref a1), .val (.int i1), .val (.int v1)] [(.ref a1)])) rfl rfl (hb hby d3_47)
      have S490 : ∀ t, Steps p.tables e below (T489.setTop (mkF m 53 #[.val (.ref a1), .val (.int i1), .val (.int v1)] [(.int (v1.toUInt32.toUInt16.toUInt32.toInt32)), (.int i1), (.ref t1)])) t → Steps p.tables e below (T489.setTop (mkF m 50 #[.val (.ref a1), .val (.int i1), .val (.int v1)] [(.ref t1)])) t := by
        intro t kt
        show Steps p.tables e below (T489.setTop (mkF m 50 #[.val (.ref a1), .val (.int i1), .val (.int v1)] [(.ref t1)])) _
        refine XS.iloadN X489.here hx rfl (hb hby d3_50) rfl ?_
        show Steps p.tables e below (T489.setTop (mkF m 51 #[.val (.ref a1), .val (.int i1), .val (.int v1)] [(.int i1), (.ref t1)])) _
        refine XS.iloadN X489.here hx rfl (hb hby d3_51) rfl ?_
        show Steps p.tables e below (T489.setTop (mkF m 52 #[.val (.ref a1), .val (.int i1), .val (.int v1)] [(.int v1), (.int i1), (.ref t1)])) _
        refine XS.i2c X489.here hx rfl (hb hby d3_52) rfl ?_
        exact kt
      obtain ⟨T491, h491, X491, e491, W491, V491, st491⟩ := ArF.stC X489 hx hZ e489 F447 (i := i) hi.1 hi.2 (g := (mkF m 53 #[.val (.ref a1), .val (.int i1), .val (.int v1)] [(.int (v1.toUInt32.toUInt16.toUInt32.toInt32)), (.int i1), (.ref t1)])) rfl rfl (hb hby d3_53)
      have z492 : n0 ≤ h491.size := Nat.le_trans Z0 (Keep.of_wr W491).1
      have N493 := Fr.snoc X491 N0 g_t1
      have V491' := V491.congr (f' := (fun q => (.int (own_put vals i v1 q)))) (own_setV (own_char_nar (own_is_char hc453 hc471)))
      have S494 : ∀ t, Steps p.tables e below (T491.setTop (mkF m 85 #[.val (.ref a1), .val (.int i1), .val (.int v1)] [])) t → Steps p.tables e below (T491.setTop (mkF m 54 #[.val (.ref a1), .val (.int i1), .val (.int v1)] [])) t := by
        intro t kt
        show Steps p.tables e below (T491.setTop (mkF m 54 #[.val (.ref a1), .val (.int i1), .val (.int v1)] [])) _
        refine XS.goto X491.here hx rfl (pc0 := 54) (pc' := 85) rfl (hb hby d3_54) (by decide) (by decide) ?_
        exact kt
      have C495 : ∀ t, Steps p.tables e below (T491.setTop (mkF m 85 #[.val (.ref a1), .val (.int i1), .val (.int v1)] [])) t → Steps p.tables e below (s₁.setTop (mkF m 0 #[.val (.ref a1), .val (.int i1), .val (.int v1)] [])) t := (fun t k => (S448 t (st449 t (S450 t (st451 t (S452 t (S470 t (S488 t (st489 t (S490 t (st491 t (S494 t k))))))))))))
      obtain ⟨fs, hr, hrun, hended, hW, hsame⟩ := X491.leave (v := none) (fun _ => rfl)
      refine ⟨_, _, pre0 _ (C495 _ ?_), hrun, hended, _, _, rfl, ?_, ⟨_, rfl⟩, hW, hsame.mono (by decide) (by decide)⟩
      · exact X491.returnOut hx Bd.returns (hb hby d3_85) hr
      · show Q_rm_sC Z a1 i1 v1 i t1 vals h0 n0 _ T491.heap _
        rw [e491]
        have f496 := (F442.wr W491)
        have f497 := (F443.other W491 (Or.inl ne_a1_t1))
        have f498 := (F444.other W491 (Or.inl ne_a1_t1))
        have f499 := (F445.other W491 (Or.inl ne_a1_t1))
        have f500 := (F446.other W491 (Or.inl ne_a1_t1))
        exact ⟨rfl, N493, z492, (Or.inr (Or.inl ⟨t1, ⟨g_a1, g_t1, ne_a1_t1, f496, f497⟩, f498, f499, f500, V491', own_put_all hrg i (own_is_char hc453 hc471)⟩))⟩
theorem ef_rm_sB (m : MethodId) (x0 : Addr) (x1 : Int32) (x2 : Int32) : entryFrame m #[(.ref x0), (.int x1), (.int x2)] 3 = mkF m 0 #[.val (.ref x0), .val (.int x1), .val (.int x2)] [] := by first | (simp [entryFrame, mkF, argsToLocals, Value.category]; done) | rfl
def Q_rm_sB (Z : State) (a1 : Addr) (i1 : Int32) (v1 : Int32) (i : Nat) (t1 : Addr) (vals : Nat → Int32) (h0 : Heap) (n0 : Nat) (v : Option Value) (h : Heap) (L : List Loc) : Prop := v = none ∧ Fr n0 L ∧ n0 ≤ h.size ∧ own_NI Z h n0 a1 (own_put vals i v1)
set_option maxRecDepth 65536 in
set_option maxHeartbeats 40000000 in
theorem rm_sB (l : Launch) (Z : State) (a0 : Array Value) (hw : ∀ d ∈ tables_1, d.before a0 Z = true) (ws : List Jvm.Cond) (a1 : Addr) (i1 : Int32) (v1 : Int32) (i : Nat) (t1 : Addr) (vals : Nat → Int32) (h0 : Heap) (n0 : Nat) (Z0 : n0 ≤ h0.size) (F501 : Exa Z h0 a1 "com/example/joinery/joinery/NarrowInts") (F502 : Fld Z h0 a1 "com/example/joinery/joinery/NarrowInts" "capacity" "I" (.int (4 : Int32))) (F503 : Fld Z h0 a1 "com/example/joinery/joinery/NarrowInts" "bytes" "[B" (.ref t1)) (F504 : Fld Z h0 a1 "com/example/joinery/joinery/NarrowInts" "chars" "[C" .null) (F505 : Fld Z h0 a1 "com/example/joinery/joinery/NarrowInts" "ints" "[I" .null) (F506 : ArF Z h0 t1 .byte 4 (fun q => (.int (own_nb (vals q))))) (g_a1 : n0 ≤ a1) (g_t1 : n0 ≤ t1) (ne_a1_t1 : a1 ≠ t1) (hi : i1.toInt = (i : Int) ∧ i < 4) (hrg : ∀ i, i < 4 → own_byte (vals i)) :
    MetFree l (⟨"com/example/joinery/joinery/NarrowInts", "set", "(II)V"⟩ : MethodName) (head1 (Jvm.Cond.code (⟨"com/example/joinery/joinery/NarrowInts", "set", "(II)V"⟩ : MethodName) prog_31_method_4_code 3 none :: ws) ({ frames := 2, cells := 2, slots := 8, locals := 64 } : Room)) (fun a U => a = #[(.ref a1), (.int i1), (.int v1)] ∧ Z.Warmed39 U.vm ∧ U.heap = h0) (fun _ _ _ _ _ => True) (fun _ U o U' => ∃ v L, o = .returned v ∧ Q_rm_sB Z a1 i1 v1 i t1 vals h0 n0 v U'.heap L ∧ FrameEnd U o U' L ({ frames := 2, cells := 2, slots := 8, locals := 64 } : Room).cells ({ frames := 2, cells := 2, slots := 8, locals := 64 } : Room).slots) := by
  refine MetFree.of_bodySF (plainFor_of_name pn_0) hisR ?_
  intro p e s m args below meth c s₁ Bd hml0 hP hK
  obtain ⟨rfl, hZ, hh⟩ := hP
  have hx := Bd.exec
  have hby := Bd.bytes
  have hml : c.maxLocals = 3 := hml0
  have hown : s.vm.findClass "com/example/joinery/joinery/NarrowInts" = some m.cls := findClass_of_methodNamed Bd.named
  have hnm := (name_of_methodNamed Bd.named Bd.method).1
  have X0 : Stand p l e ({ frames := 2, cells := 2, slots := 8, locals := 64 } : Room) s m #[(.ref a1), (.int i1), (.int v1)] below meth c s₁ [] 0 0 := Stand.of_body Bd
  have e0 : s₁.heap = h0 := by rw [← hh, Bd.state]; rfl
  have N0 := Fr.nil n0
  have pre0 : ∀ t, Steps p.tables e below (s₁.setTop (mkF m 0 #[.val (.ref a1), .val (.int i1), .val (.int v1)] [])) t → Steps p.tables e below (s₁.setTop (entryFrame m #[(.ref a1), (.int i1), (.int v1)] 3)) t := fun t k => castTop (ef_rm_sB m a1 i1 v1) k
  have S507 : ∀ t, Steps p.tables e below (s₁.setTop (mkF m 1 #[.val (.ref a1), .val (.int i1), .val (.int v1)] [(.ref a1)])) t → Steps p.tables e below (s₁.setTop (mkF m 0 #[.val (.ref a1), .val (.int i1), .val (.int v1)] [])) t := by
    intro t kt
    show Steps p.tables e below (s₁.setTop (mkF m 0 #[.val (.ref a1), .val (.int i1), .val (.int v1)] [])) _
    refine XS.aloadN X0.here hx rfl (hb hby d3_0) rfl rfl ?_
    exact kt
  obtain ⟨T508, X508, e508, st508⟩ := getF X0 hx hZ hown (host := "") (Or.inl (hw _ (List.mem_of_getElem? (i := 12) rfl))) Via.refl e0 F503 (g := (mkF m 1 #[.val (.ref a1), .val (.int i1), .val (.int v1)] [(.ref a1)])) rfl rfl (hb hby d3_1)
  have S509 : ∀ t, Steps p.tables e below (T508.setTop (mkF m 8 #[.val (.ref a1), .val (.int i1), .val (.int v1)] [(.int v1)])) t → Steps p.tables e below (T508.setTop (mkF m 4 #[.val (.ref a1), .val (.int i1), .val (.int v1)] [(.ref t1)])) t := by
    intro t kt
    show Steps p.tables e below (T508.setTop (mkF m 4 #[.val (.ref a1), .val (.int i1), .val (.int v1)] [(.ref t1)])) _
    refine XS.ifnullNo X508.here hx rfl (hb hby d3_4) rfl ?_
    show Steps p.tables e below (T508.setTop (mkF m 7 #[.val (.ref a1), .val (.int i1), .val (.int v1)] [])) _
    refine XS.iloadN X508.here hx rfl (hb hby d3_7) rfl ?_
    exact kt
  by_cases hc510 : v1 < (0 : Int32)
  · have S511 : ∀ t, Steps p.tables e below (T508.setTop (mkF m 30 #[.val (.ref a1), .val (.int i1), .val (.int v1)] [(.ref a1)])) t → Steps p.tables e below (T508.setTop (mkF m 8 #[.val (.ref a1), .val (.int i1), .val (.int v1)] [(.int v1)])) t := by
      intro t kt
      show Steps p.tables e below (T508.setTop (mkF m 8 #[.val (.ref a1), .val (.int i1), .val (.int v1)] [(.int v1)])) _
      refine XS.ifYes X508.here hx rfl (pc0 := 8) (pc' := 29) rfl (hb hby d3_8) rfl ((if0 _ _).trans (tlt hc510).1) (by decide) (by decide) ?_
      show Steps p.tables e below (T508.setTop (mkF m 29 #[.val (.ref a1), .val (.int i1), .val (.int v1)] [])) _
      refine XS.aloadN X508.here hx rfl (hb hby d3_29) rfl rfl ?_
      exact kt
    obtain ⟨T512, X512, e512, st512⟩ := getF X508 hx hZ hown (host := "") (Or.inl (hw _ (List.mem_of_getElem? (i := 24) rfl))) Via.refl e508 F504 (g := (mkF m 30 #[.val (.ref a1), .val (.int i1), .val (.int v1)] [(.ref a1)])) rfl rfl (hb hby d3_30)
    have S513 : ∀ t, Steps p.tables e below (T512.setTop (mkF m 58 #[.val (.ref a1), .val (.int i1), .val (.int v1)] [(.ref a1)])) t → Steps p.tables e below (T512.setTop (mkF m 33 #[.val (.ref a1), .val (.int i1), .val (.int v1)] [.null])) t := by
      intro t kt
      show Steps p.tables e below (T512.setTop (mkF m 33 #[.val (.ref a1), .val (.int i1), .val (.int v1)] [.null])) _
      refine XS.ifnullYes X512.here hx rfl (pc0 := 33) (pc' := 57) rfl (hb hby d3_33) rfl (by decide) (by decide) ?_
      show Steps p.tables e below (T512.setTop (mkF m 57 #[.val (.ref a1), .val (.int i1), .val (.int v1)] [])) _
      refine XS.aloadN X512.here hx rfl (hb hby d3_57) rfl rfl ?_
      exact kt
    obtain ⟨T514, X514, e514, st514⟩ := getF X512 hx hZ hown (host := "") (Or.inl (hw _ (List.mem_of_getElem? (i := 26) rfl))) Via.refl e512 F505 (g := (mkF m 58 #[.val (.ref a1), .val (.int i1), .val (.int v1)] [(.ref a1)])) rfl rfl (hb hby d3_58)
    have S515 : ∀ t, Steps p.tables e below (T514.setTop (mkF m 76 #[.val (.ref a1), .val (.int i1), .val (.int v1)] [(.int v1), (.ref a1)])) t → Steps p.tables e below (T514.setTop (mkF m 61 #[.val (.ref a1), .val (.int i1), .val (.int v1)] [.null])) t := by
      intro t kt
      show Steps p.tables e below (T514.setTop (mkF m 61 #[.val (.ref a1), .val (.int i1), .val (.int v1)] [.null])) _
      refine XS.ifnullYes X514.here hx rfl (pc0 := 61) (pc' := 74) rfl (hb hby d3_61) rfl (by decide) (by decide) ?_
      show Steps p.tables e below (T514.setTop (mkF m 74 #[.val (.ref a1), .val (.int i1), .val (.int v1)] [])) _
      refine XS.aloadN X514.here hx rfl (hb hby d3_74) rfl rfl ?_
      show Steps p.tables e below (T514.setTop (mkF m 75 #[.val (.ref a1), .val (.int i1), .val (.int v1)] [(.ref a1)])) _
      refine XS.iloadN X514.here hx rfl (hb hby d3_75) rfl ?_
      exact kt
    obtain ⟨cq516, q516, q516'⟩ := F501.cell
    obtain ⟨_, _, ⟨T516, L516, k516, n516⟩, -, X516, ⟨Lc516, hQ516, l516, y516, z516⟩, st516⟩ := X514.privateBack hx (y := (⟨"com/example/joinery/joinery/NarrowInts", "widenFor", "(I)V"⟩ : MethodName)) hown (mvT hZ (hw _ (List.mem_of_getElem? (i := 28) rfl))) (mvT hZ (hw _ (List.mem_of_getElem? (i := 29) rfl))) (own_selP hZ (hw _ (List.mem_of_getElem? (i := 1) rfl)) (hw _ (List.mem_of_getElem? (i := 30) rfl)) (hw _ (List.mem_of_getElem? (i := 29) rfl)) (by decide)) (Cond.privateMethod_at (mvP hZ (hw _ (List.mem_of_getElem? (i := 30) rfl)) (args := #[]))) (mvT hZ (hw _ (List.mem_of_getElem? (i := 31) rfl))) (by decide) (backOf (W := 0) (rm_wBI l Z a0 hw [] a1 v1 t1 vals h0 n0 Z0 F501 F502 F503 F504 F505 F506 g_a1 g_t1 ne_a1_t1 hrg (Or.inl hc510)) hZ (hw _ (List.mem_of_getElem? (i := 31) rfl)) (hw _ (List.mem_of_getElem? (i := 2) rfl)) (by decide) (by decide)) (g := (mkF m 76 #[.val (.ref a1), .val (.int i1), .val (.int v1)] [(.int v1), (.ref a1)])) rfl (by rw [hml]; rfl) (Steps.refl _) (a := a1) (by rw [e514]; exact q516) q516' (argsL := [(.int v1)]) (rest := []) (lenOf pd_0 rfl) rfl (by show 2 * 0 + _ ≤ _; exact Nat.le_of_eq rfl) (hb hby d3_76) (fun _ _ => ⟨rfl, e514, (by decide : 0 + 1 ≤ _), (by decide : 0 + 4 ≤ _)⟩)
    dsimp only [Pt.U, Pt.locs, Pt.cells, Pt.slots] at X516 l516 y516 z516 st516 hQ516
    subst l516 y516 z516
    obtain ⟨h516, e516⟩ : ∃ z, T516.heap = z := ⟨_, rfl⟩
    rw [e516] at hQ516
    obtain ⟨rfl, N516q, z517, hW_⟩ := hQ516
    have N516 := Fr.app N0 N516q
    obtain ⟨t518, ⟨-, g_t518, ne_a1_t518, F519, F520⟩, F521, F522, F523, F524⟩ := hW_
    have S525 : ∀ t, Steps p.tables e below (T516.setTop (mkF m 82 #[.val (.ref a1), .val (.int i1), .val (.int v1)] [(.int v1), (.int i1), (.ref a1)])) t → Steps p.tables e below (T516.setTop (mkF m 79 #[.val (.ref a1), .val (.int i1), .val (.int v1)] [])) t := by
      intro t kt
      show Steps p.tables e below (T516.setTop (mkF m 79 #[.val (.ref a1), .val (.int i1), .val (.int v1)] [])) _
      refine XS.aloadN X516.here hx rfl (hb hby d3_79) rfl rfl ?_
      show Steps p.tables e below (T516.setTop (mkF m 80 #[.val (.ref a1), .val (.int i1), .val (.int v1)] [(.ref a1)])) _
      refine XS.iloadN X516.here hx rfl (hb hby d3_80) rfl ?_
      show Steps p.tables e below (T516.setTop (mkF m 81 #[.val (.ref a1), .val (.int i1), .val (.int v1)] [(.int i1), (.ref a1)])) _
      refine XS.iloadN X516.here hx rfl (hb hby d3_81) rfl ?_
      exact kt
    obtain ⟨cq526, kq526, q526a, q526b, q526c⟩ := isOf hZ e516 F519
    obtain ⟨_, _, ⟨T526, L526, k526, n526⟩, -, X526, ⟨Lc526, hQ526, l526, y526, z526⟩, st526⟩ := X516.virtualBack hx (y := (⟨"com/example/joinery/joinery/NarrowInts", "set", "(II)V"⟩ : MethodName)) (z := (⟨"com/example/joinery/joinery/NarrowInts", "set", "(II)V"⟩ : MethodName)) hown (mvT hZ (hw _ (List.mem_of_getElem? (i := 34) rfl))) (mvT hZ (hw _ (List.mem_of_getElem? (i := 15) rfl))) (notFace_of_selects (args := #[]) (mvT hZ (hw _ (List.mem_of_getElem? (i := 17) rfl)))) (mvT hZ (hw _ (List.mem_of_getElem? (i := 17) rfl))) (mvT hZ (hw _ (List.mem_of_getElem? (i := 16) rfl))) (by decide) (backOf (W := 0) (rm_sI l Z a0 hw [] a1 i1 v1 i t518 vals h516 n0 z517 F519 F520 F521 F522 F523 F524 g_a1 g_t518 ne_a1_t518 hi) hZ (hw _ (List.mem_of_getElem? (i := 18) rfl)) (hw _ (List.mem_of_getElem? (i := 2) rfl)) (by decide) (by decide)) q526a q526c (g := (mkF m 82 #[.val (.ref a1), .val (.int i1), .val (.int v1)] [(.int v1), (.int i1), (.ref a1)])) rfl (by rw [hml]; rfl) (Steps.refl _) (argsL := [(.int i1), (.int v1)]) (rest := []) (lenOf pd_1 rfl) rfl (by show 2 * 0 + _ ≤ _; exact Nat.le_of_eq rfl) (hb hby d3_82) (fun _ _ => ⟨rfl, e516, (by decide : 1 + 0 ≤ _), (by decide : 4 + 0 ≤ _)⟩)
    dsimp only [Pt.U, Pt.locs, Pt.cells, Pt.slots] at X526 l526 y526 z526 st526 hQ526
    subst l526 y526 z526
    obtain ⟨h526, e526⟩ : ∃ z, T526.heap = z := ⟨_, rfl⟩
    rw [e526] at hQ526
    obtain ⟨rfl, N526q, z527, hV_⟩ := hQ526
    have N526 := Fr.app N516 N526q
    have C528 : ∀ t, Steps p.tables e below (T526.setTop (mkF m 85 #[.val (.ref a1), .val (.int i1), .val (.int v1)] [])) t → Steps p.tables e below (s₁.setTop (mkF m 0 #[.val (.ref a1), .val (.int i1), .val (.int v1)] [])) t := (fun t k => (S507 t (st508 t (S509 t (S511 t (st512 t (S513 t (st514 t (S515 t (st516.trans (S525 t (st526.trans k))))))))))))
    obtain ⟨fs, hr, hrun, hended, hW, hsame⟩ := X526.leave (v := none) (fun _ => rfl)
    refine ⟨_, _, pre0 _ (C528 _ ?_), hrun, hended, _, _, rfl, ?_, ⟨_, rfl⟩, hW, hsame.mono (by decide) (by decide)⟩
    · exact X526.returnOut hx Bd.returns (hb hby d3_85) hr
    · show Q_rm_sB Z a1 i1 v1 i t1 vals h0 n0 _ T526.heap _
      rw [e526]
      exact ⟨rfl, N526, z527, hV_⟩
  · have S529 : ∀ t, Steps p.tables e below (T508.setTop (mkF m 15 #[.val (.ref a1), .val (.int i1), .val (.int v1)] [(.int (255 : Int32)), (.int v1)])) t → Steps p.tables e below (T508.setTop (mkF m 8 #[.val (.ref a1), .val (.int i1), .val (.int v1)] [(.int v1)])) t := by
      intro t kt
      show Steps p.tables e below (T508.setTop (mkF m 8 #[.val (.ref a1), .val (.int i1), .val (.int v1)] [(.int v1)])) _
      refine XS.ifNo X508.here hx rfl (hb hby d3_8) rfl ((if0 _ _).trans (flt hc510).1) ?_
      show Steps p.tables e below (T508.setTop (mkF m 11 #[.val (.ref a1), .val (.int i1), .val (.int v1)] [])) _
      refine XS.iloadN X508.here hx rfl (hb hby d3_11) rfl ?_
      show Steps p.tables e below (T508.setTop (mkF m 12 #[.val (.ref a1), .val (.int i1), .val (.int v1)] [(.int v1)])) _
      refine XS.sipush X508.here hx rfl (hb hby d3_12) ?_
      exact kt
    by_cases hc530 : (255 : Int32) < v1
    · have S531 : ∀ t, Steps p.tables e below (T508.setTop (mkF m 30 #[.val (.ref a1), .val (.int i1), .val (.int v1)] [(.ref a1)])) t → Steps p.tables e below (T508.setTop (mkF m 15 #[.val (.ref a1), .val (.int i1), .val (.int v1)] [(.int (255 : Int32)), (.int v1)])) t := by
        intro t kt
        show Steps p.tables e below (T508.setTop (mkF m 15 #[.val (.ref a1), .val (.int i1), .val (.int v1)] [(.int (255 : Int32)), (.int v1)])) _
        refine XS.icmpYes X508.here hx rfl (pc0 := 15) (pc' := 29) rfl (hb hby d3_15) rfl (tlt hc530).2.2.1 (by decide) (by decide) ?_
        show Steps p.tables e below (T508.setTop (mkF m 29 #[.val (.ref a1), .val (.int i1), .val (.int v1)] [])) _
        refine XS.aloadN X508.here hx rfl (hb hby d3_29) rfl rfl ?_
        exact kt
      obtain ⟨T532, X532, e532, st532⟩ := getF X508 hx hZ hown (host := "") (Or.inl (hw _ (List.mem_of_getElem? (i := 24) rfl))) Via.refl e508 F504 (g := (mkF m 30 #[.val (.ref a1), .val (.int i1), .val (.int v1)] [(.ref a1)])) rfl rfl (hb hby d3_30)
      have S533 : ∀ t, Steps p.tables e below (T532.setTop (mkF m 58 #[.val (.ref a1), .val (.int i1), .val (.int v1)] [(.ref a1)])) t → Steps p.tables e below (T532.setTop (mkF m 33 #[.val (.ref a1), .val (.int i1), .val (.int v1)] [.null])) t := by
        intro t kt
        show Steps p.tables e below (T532.setTop (mkF m 33 #[.val (.ref a1), .val (.int i1), .val (.int v1)] [.null])) _
        refine XS.ifnullYes X532.here hx rfl (pc0 := 33) (pc' := 57) rfl (hb hby d3_33) rfl (by decide) (by decide) ?_
        show Steps p.tables e below (T532.setTop (mkF m 57 #[.val (.ref a1), .val (.int i1), .val (.int v1)] [])) _
        refine XS.aloadN X532.here hx rfl (hb hby d3_57) rfl rfl ?_
        exact kt
      obtain ⟨T534, X534, e534, st534⟩ := getF X532 hx hZ hown (host := "") (Or.inl (hw _ (List.mem_of_getElem? (i := 26) rfl))) Via.refl e532 F505 (g := (mkF m 58 #[.val (.ref a1), .val (.int i1), .val (.int v1)] [(.ref a1)])) rfl rfl (hb hby d3_58)
      have S535 : ∀ t, Steps p.tables e below (T534.setTop (mkF m 76 #[.val (.ref a1), .val (.int i1), .val (.int v1)] [(.int v1), (.ref a1)])) t → Steps p.tables e below (T534.setTop (mkF m 61 #[.val (.ref a1), .val (.int i1), .val (.int v1)] [.null])) t := by
        intro t kt
        show Steps p.tables e below (T534.setTop (mkF m 61 #[.val (.ref a1), .val (.int i1), .val (.int v1)] [.null])) _
        refine XS.ifnullYes X534.here hx rfl (pc0 := 61) (pc' := 74) rfl (hb hby d3_61) rfl (by decide) (by decide) ?_
        show Steps p.tables e below (T534.setTop (mkF m 74 #[.val (.ref a1), .val (.int i1), .val (.int v1)] [])) _
        refine XS.aloadN X534.here hx rfl (hb hby d3_74) rfl rfl ?_
        show Steps p.tables e below (T534.setTop (mkF m 75 #[.val (.ref a1), .val (.int i1), .val (.int v1)] [(.ref a1)])) _
        refine XS.iloadN X534.here hx rfl (hb hby d3_75) rfl ?_
        exact kt
      by_cases h65 : (65535 : Int32) < v1
      · obtain ⟨cq536, q536, q536'⟩ := F501.cell
        obtain ⟨_, _, ⟨T536, L536, k536, n536⟩, -, X536, ⟨Lc536, hQ536, l536, y536, z536⟩, st536⟩ := X534.privateBack hx (y := (⟨"com/example/joinery/joinery/NarrowInts", "widenFor", "(I)V"⟩ : MethodName)) hown (mvT hZ (hw _ (List.mem_of_getElem? (i := 28) rfl))) (mvT hZ (hw _ (List.mem_of_getElem? (i := 29) rfl))) (own_selP hZ (hw _ (List.mem_of_getElem? (i := 1) rfl)) (hw _ (List.mem_of_getElem? (i := 30) rfl)) (hw _ (List.mem_of_getElem? (i := 29) rfl)) (by decide)) (Cond.privateMethod_at (mvP hZ (hw _ (List.mem_of_getElem? (i := 30) rfl)) (args := #[]))) (mvT hZ (hw _ (List.mem_of_getElem? (i := 31) rfl))) (by decide) (backOf (W := 0) (rm_wBI l Z a0 hw [] a1 v1 t1 vals h0 n0 Z0 F501 F502 F503 F504 F505 F506 g_a1 g_t1 ne_a1_t1 hrg (Or.inr h65)) hZ (hw _ (List.mem_of_getElem? (i := 31) rfl)) (hw _ (List.mem_of_getElem? (i := 2) rfl)) (by decide) (by decide)) (g := (mkF m 76 #[.val (.ref a1), .val (.int i1), .val (.int v1)] [(.int v1), (.ref a1)])) rfl (by rw [hml]; rfl) (Steps.refl _) (a := a1) (by rw [e534]; exact q536) q536' (argsL := [(.int v1)]) (rest := []) (lenOf pd_0 rfl) rfl (by show 2 * 0 + _ ≤ _; exact Nat.le_of_eq rfl) (hb hby d3_76) (fun _ _ => ⟨rfl, e534, (by decide : 0 + 1 ≤ _), (by decide : 0 + 4 ≤ _)⟩)
        dsimp only [Pt.U, Pt.locs, Pt.cells, Pt.slots] at X536 l536 y536 z536 st536 hQ536
        subst l536 y536 z536
        obtain ⟨h536, e536⟩ : ∃ z, T536.heap = z := ⟨_, rfl⟩
        rw [e536] at hQ536
        obtain ⟨rfl, N536q, z537, hW_⟩ := hQ536
        have N536 := Fr.app N0 N536q
        obtain ⟨t538, ⟨-, g_t538, ne_a1_t538, F539, F540⟩, F541, F542, F543, F544⟩ := hW_
        have S545 : ∀ t, Steps p.tables e below (T536.setTop (mkF m 82 #[.val (.ref a1), .val (.int i1), .val (.int v1)] [(.int v1), (.int i1), (.ref a1)])) t → Steps p.tables e below (T536.setTop (mkF m 79 #[.val (.ref a1), .val (.int i1), .val (.int v1)] [])) t := by
          intro t kt
          show Steps p.tables e below (T536.setTop (mkF m 79 #[.val (.ref a1), .val (.int i1), .val (.int v1)] [])) _
          refine XS.aloadN X536.here hx rfl (hb hby d3_79) rfl rfl ?_
          show Steps p.tables e below (T536.setTop (mkF m 80 #[.val (.ref a1), .val (.int i1), .val (.int v1)] [(.ref a1)])) _
          refine XS.iloadN X536.here hx rfl (hb hby d3_80) rfl ?_
          show Steps p.tables e below (T536.setTop (mkF m 81 #[.val (.ref a1), .val (.int i1), .val (.int v1)] [(.int i1), (.ref a1)])) _
          refine XS.iloadN X536.here hx rfl (hb hby d3_81) rfl ?_
          exact kt
        obtain ⟨cq546, kq546, q546a, q546b, q546c⟩ := isOf hZ e536 F539
        obtain ⟨_, _, ⟨T546, L546, k546, n546⟩, -, X546, ⟨Lc546, hQ546, l546, y546, z546⟩, st546⟩ := X536.virtualBack hx (y := (⟨"com/example/joinery/joinery/NarrowInts", "set", "(II)V"⟩ : MethodName)) (z := (⟨"com/example/joinery/joinery/NarrowInts", "set", "(II)V"⟩ : MethodName)) hown (mvT hZ (hw _ (List.mem_of_getElem? (i := 34) rfl))) (mvT hZ (hw _ (List.mem_of_getElem? (i := 15) rfl))) (notFace_of_selects (args := #[]) (mvT hZ (hw _ (List.mem_of_getElem? (i := 17) rfl)))) (mvT hZ (hw _ (List.mem_of_getElem? (i := 17) rfl))) (mvT hZ (hw _ (List.mem_of_getElem? (i := 16) rfl))) (by decide) (backOf (W := 0) (rm_sI l Z a0 hw [] a1 i1 v1 i t538 vals h536 n0 z537 F539 F540 F541 F542 F543 F544 g_a1 g_t538 ne_a1_t538 hi) hZ (hw _ (List.mem_of_getElem? (i := 18) rfl)) (hw _ (List.mem_of_getElem? (i := 2) rfl)) (by decide) (by decide)) q546a q546c (g := (mkF m 82 #[.val (.ref a1), .val (.int i1), .val (.int v1)] [(.int v1), (.int i1), (.ref a1)])) rfl (by rw [hml]; rfl) (Steps.refl _) (argsL := [(.int i1), (.int v1)]) (rest := []) (lenOf pd_1 rfl) rfl (by show 2 * 0 + _ ≤ _; exact Nat.le_of_eq rfl) (hb hby d3_82) (fun _ _ => ⟨rfl, e536, (by decide : 1 + 0 ≤ _), (by decide : 4 + 0 ≤ _)⟩)
        dsimp only [Pt.U, Pt.locs, Pt.cells, Pt.slots] at X546 l546 y546 z546 st546 hQ546
        subst l546 y546 z546
        obtain ⟨h546, e546⟩ : ∃ z, T546.heap = z := ⟨_, rfl⟩
        rw [e546] at hQ546
        obtain ⟨rfl, N546q, z547, hV_⟩ := hQ546
        have N546 := Fr.app N536 N546q
        have C548 : ∀ t, Steps p.tables e below (T546.setTop (mkF m 85 #[.val (.ref a1), .val (.int i1), .val (.int v1)] [])) t → Steps p.tables e below (s₁.setTop (mkF m 0 #[.val (.ref a1), .val (.int i1), .val (.int v1)] [])) t := (fun t k => (S507 t (st508 t (S509 t (S529 t (S531 t (st532 t (S533 t (st534 t (S535 t (st536.trans (S545 t (st546.trans k)))))))))))))
        obtain ⟨fs, hr, hrun, hended, hW, hsame⟩ := X546.leave (v := none) (fun _ => rfl)
        refine ⟨_, _, pre0 _ (C548 _ ?_), hrun, hended, _, _, rfl, ?_, ⟨_, rfl⟩, hW, hsame.mono (by decide) (by decide)⟩
        · exact X546.returnOut hx Bd.returns (hb hby d3_85) hr
        · show Q_rm_sB Z a1 i1 v1 i t1 vals h0 n0 _ T546.heap _
          rw [e546]
          exact ⟨rfl, N546, z547, hV_⟩
      · obtain ⟨cq549, q549, q549'⟩ := F501.cell
        obtain ⟨_, _, ⟨T549, L549, k549, n549⟩, -, X549, ⟨Lc549, hQ549, l549, y549, z549⟩, st549⟩ := X534.privateBack hx (y := (⟨"com/example/joinery/joinery/NarrowInts", "widenFor", "(I)V"⟩ : MethodName)) hown (mvT hZ (hw _ (List.mem_of_getElem? (i := 28) rfl))) (mvT hZ (hw _ (List.mem_of_getElem? (i := 29) rfl))) (own_selP hZ (hw _ (List.mem_of_getElem? (i := 1) rfl)) (hw _ (List.mem_of_getElem? (i := 30) rfl)) (hw _ (List.mem_of_getElem? (i := 29) rfl)) (by decide)) (Cond.privateMethod_at (mvP hZ (hw _ (List.mem_of_getElem? (i := 30) rfl)) (args := #[]))) (mvT hZ (hw _ (List.mem_of_getElem? (i := 31) rfl))) (by decide) (backOf (W := 0) (rm_wBC l Z a0 hw [] a1 v1 t1 vals h0 n0 Z0 F501 F502 F503 F504 F505 F506 g_a1 g_t1 ne_a1_t1 hrg hc510 h65) hZ (hw _ (List.mem_of_getElem? (i := 31) rfl)) (hw _ (List.mem_of_getElem? (i := 2) rfl)) (by decide) (by decide)) (g := (mkF m 76 #[.val (.ref a1), .val (.int i1), .val (.int v1)] [(.int v1), (.ref a1)])) rfl (by rw [hml]; rfl) (Steps.refl _) (a := a1) (by rw [e534]; exact q549) q549' (argsL := [(.int v1)]) (rest := []) (lenOf pd_0 rfl) rfl (by show 2 * 0 + _ ≤ _; exact Nat.le_of_eq rfl) (hb hby d3_76) (fun _ _ => ⟨rfl, e534, (by decide : 0 + 1 ≤ _), (by decide : 0 + 4 ≤ _)⟩)
        dsimp only [Pt.U, Pt.locs, Pt.cells, Pt.slots] at X549 l549 y549 z549 st549 hQ549
        subst l549 y549 z549
        obtain ⟨h549, e549⟩ : ∃ z, T549.heap = z := ⟨_, rfl⟩
        rw [e549] at hQ549
        obtain ⟨rfl, N549q, z550, hW_⟩ := hQ549
        have N549 := Fr.app N0 N549q
        obtain ⟨t551, ⟨-, g_t551, ne_a1_t551, F552, F553⟩, F554, F555, F556, F557, hrg551⟩ := hW_
        have S558 : ∀ t, Steps p.tables e below (T549.setTop (mkF m 82 #[.val (.ref a1), .val (.int i1), .val (.int v1)] [(.int v1), (.int i1), (.ref a1)])) t → Steps p.tables e below (T549.setTop (mkF m 79 #[.val (.ref a1), .val (.int i1), .val (.int v1)] [])) t := by
          intro t kt
          show Steps p.tables e below (T549.setTop (mkF m 79 #[.val (.ref a1), .val (.int i1), .val (.int v1)] [])) _
          refine XS.aloadN X549.here hx rfl (hb hby d3_79) rfl rfl ?_
          show Steps p.tables e below (T549.setTop (mkF m 80 #[.val (.ref a1), .val (.int i1), .val (.int v1)] [(.ref a1)])) _
          refine XS.iloadN X549.here hx rfl (hb hby d3_80) rfl ?_
          show Steps p.tables e below (T549.setTop (mkF m 81 #[.val (.ref a1), .val (.int i1), .val (.int v1)] [(.int i1), (.ref a1)])) _
          refine XS.iloadN X549.here hx rfl (hb hby d3_81) rfl ?_
          exact kt
        obtain ⟨cq559, kq559, q559a, q559b, q559c⟩ := isOf hZ e549 F552
        obtain ⟨_, _, ⟨T559, L559, k559, n559⟩, -, X559, ⟨Lc559, hQ559, l559, y559, z559⟩, st559⟩ := X549.virtualBack hx (y := (⟨"com/example/joinery/joinery/NarrowInts", "set", "(II)V"⟩ : MethodName)) (z := (⟨"com/example/joinery/joinery/NarrowInts", "set", "(II)V"⟩ : MethodName)) hown (mvT hZ (hw _ (List.mem_of_getElem? (i := 34) rfl))) (mvT hZ (hw _ (List.mem_of_getElem? (i := 15) rfl))) (notFace_of_selects (args := #[]) (mvT hZ (hw _ (List.mem_of_getElem? (i := 17) rfl)))) (mvT hZ (hw _ (List.mem_of_getElem? (i := 17) rfl))) (mvT hZ (hw _ (List.mem_of_getElem? (i := 16) rfl))) (by decide) (backOf (W := 0) (rm_sC l Z a0 hw [] a1 i1 v1 i t551 vals h549 n0 z550 F552 F553 F554 F555 F556 F557 g_a1 g_t551 ne_a1_t551 hi hrg551) hZ (hw _ (List.mem_of_getElem? (i := 18) rfl)) (hw _ (List.mem_of_getElem? (i := 2) rfl)) (by decide) (by decide)) q559a q559c (g := (mkF m 82 #[.val (.ref a1), .val (.int i1), .val (.int v1)] [(.int v1), (.int i1), (.ref a1)])) rfl (by rw [hml]; rfl) (Steps.refl _) (argsL := [(.int i1), (.int v1)]) (rest := []) (lenOf pd_1 rfl) rfl (by show 2 * 0 + _ ≤ _; exact Nat.le_of_eq rfl) (hb hby d3_82) (fun _ _ => ⟨rfl, e549, (by decide : 1 + 1 ≤ _), (by decide : 4 + 4 ≤ _)⟩)
        dsimp only [Pt.U, Pt.locs, Pt.cells, Pt.slots] at X559 l559 y559 z559 st559 hQ559
        subst l559 y559 z559
        obtain ⟨h559, e559⟩ : ∃ z, T559.heap = z := ⟨_, rfl⟩
        rw [e559] at hQ559
        obtain ⟨rfl, N559q, z560, hV_⟩ := hQ559
        have N559 := Fr.app N549 N559q
        have C561 : ∀ t, Steps p.tables e below (T559.setTop (mkF m 85 #[.val (.ref a1), .val (.int i1), .val (.int v1)] [])) t → Steps p.tables e below (s₁.setTop (mkF m 0 #[.val (.ref a1), .val (.int i1), .val (.int v1)] [])) t := (fun t k => (S507 t (st508 t (S509 t (S529 t (S531 t (st532 t (S533 t (st534 t (S535 t (st549.trans (S558 t (st559.trans k)))))))))))))
        obtain ⟨fs, hr, hrun, hended, hW, hsame⟩ := X559.leave (v := none) (fun _ => rfl)
        refine ⟨_, _, pre0 _ (C561 _ ?_), hrun, hended, _, _, rfl, ?_, ⟨_, rfl⟩, hW, hsame.mono (by decide) (by decide)⟩
        · exact X559.returnOut hx Bd.returns (hb hby d3_85) hr
        · show Q_rm_sB Z a1 i1 v1 i t1 vals h0 n0 _ T559.heap _
          rw [e559]
          exact ⟨rfl, N559, z560, hV_⟩
    · have S562 : ∀ t, Steps p.tables e below (T508.setTop (mkF m 19 #[.val (.ref a1), .val (.int i1), .val (.int v1)] [(.ref a1)])) t → Steps p.tables e below (T508.setTop (mkF m 15 #[.val (.ref a1), .val (.int i1), .val (.int v1)] [(.int (255 : Int32)), (.int v1)])) t := by
        intro t kt
        show Steps p.tables e below (T508.setTop (mkF m 15 #[.val (.ref a1), .val (.int i1), .val (.int v1)] [(.int (255 : Int32)), (.int v1)])) _
        refine XS.icmpNo X508.here hx rfl (hb hby d3_15) rfl (flt hc530).2.2.1 ?_
        show Steps p.tables e below (T508.setTop (mkF m 18 #[.val (.ref a1), .val (.int i1), .val (.int v1)] [])) _
        refine XS.aloadN X508.here hx rfl (hb hby d3_18) rfl rfl ?_
        exact kt
      obtain ⟨T563, X563, e563, st563⟩ := getF X508 hx hZ hown (host := "") (Or.inl (hw _ (List.mem_of_getElem? (i := 12) rfl))) Via.refl e508 F503 (g := (mkF m 19 #[.val (.ref a1), .val (.int i1), .val (.int v1)] [(.ref a1)])) rfl rfl (hb hby d3_19)
      have S564 : ∀ t, Steps p.tables e below (T563.setTop (mkF m 25 #[.val (.ref a1), .val (.int i1), .val (.int v1)] [(.int (v1.toInt8.toInt32)), (.int i1), (.ref t1)])) t → Steps p.tables e below (T563.setTop (mkF m 22 #[.val (.ref a1), .val (.int i1), .val (.int v1)] [(.ref t1)])) t := by
        intro t kt
        show Steps p.tables e below (T563.setTop (mkF m 22 #[.val (.ref a1), .val (.int i1), .val (.int v1)] [(.ref t1)])) _
        refine XS.iloadN X563.here hx rfl (hb hby d3_22) rfl ?_
        show Steps p.tables e below (T563.setTop (mkF m 23 #[.val (.ref a1), .val (.int i1), .val (.int v1)] [(.int i1), (.ref t1)])) _
        refine XS.iloadN X563.here hx rfl (hb hby d3_23) rfl ?_
        show Steps p.tables e below (T563.setTop (mkF m 24 #[.val (.ref a1), .val (.int i1), .val (.int v1)] [(.int v1), (.int i1), (.ref t1)])) _
        refine XS.i2b X563.here hx rfl (hb hby d3_24) rfl ?_
        exact kt
      obtain ⟨T565, h565, X565, e565, W565, V565, st565⟩ := ArF.stB X563 hx hZ e563 F506 (i := i) hi.1 hi.2 (g := (mkF m 25 #[.val (.ref a1), .val (.int i1), .val (.int v1)] [(.int (v1.toInt8.toInt32)), (.int i1), (.ref t1)])) rfl rfl (hb hby d3_25)
      have z566 : n0 ≤ h565.size := Nat.le_trans Z0 (Keep.of_wr W565).1
      have N567 := Fr.snoc X565 N0 g_t1
      have V565' := V565.congr (f' := (fun q => (.int (own_nb (own_put vals i v1 q))))) (own_setB (own_byte_nar v1))
      have S568 : ∀ t, Steps p.tables e below (T565.setTop (mkF m 85 #[.val (.ref a1), .val (.int i1), .val (.int v1)] [])) t → Steps p.tables e below (T565.setTop (mkF m 26 #[.val (.ref a1), .val (.int i1), .val (.int v1)] [])) t := by
        intro t kt
        show Steps p.tables e below (T565.setTop (mkF m 26 #[.val (.ref a1), .val (.int i1), .val (.int v1)] [])) _
        refine XS.goto X565.here hx rfl (pc0 := 26) (pc' := 85) rfl (hb hby d3_26) (by decide) (by decide) ?_
        exact kt
      have C569 : ∀ t, Steps p.tables e below (T565.setTop (mkF m 85 #[.val (.ref a1), .val (.int i1), .val (.int v1)] [])) t → Steps p.tables e below (s₁.setTop (mkF m 0 #[.val (.ref a1), .val (.int i1), .val (.int v1)] [])) t := (fun t k => (S507 t (st508 t (S509 t (S529 t (S562 t (st563 t (S564 t (st565 t (S568 t k))))))))))
      obtain ⟨fs, hr, hrun, hended, hW, hsame⟩ := X565.leave (v := none) (fun _ => rfl)
      refine ⟨_, _, pre0 _ (C569 _ ?_), hrun, hended, _, _, rfl, ?_, ⟨_, rfl⟩, hW, hsame.mono (by decide) (by decide)⟩
      · exact X565.returnOut hx Bd.returns (hb hby d3_85) hr
      · show Q_rm_sB Z a1 i1 v1 i t1 vals h0 n0 _ T565.heap _
        rw [e565]
        have f570 := (F501.wr W565)
        have f571 := (F502.other W565 (Or.inl ne_a1_t1))
        have f572 := (F503.other W565 (Or.inl ne_a1_t1))
        have f573 := (F504.other W565 (Or.inl ne_a1_t1))
        have f574 := (F505.other W565 (Or.inl ne_a1_t1))
        exact ⟨rfl, N567, z566, (Or.inl ⟨t1, ⟨g_a1, g_t1, ne_a1_t1, f570, f571⟩, f572, f573, f574, V565', own_put_all hrg i (own_is_byte hc510 hc530)⟩)⟩
theorem ef_rm_gB (m : MethodId) (x0 : Addr) (x1 : Int32) : entryFrame m #[(.ref x0), (.int x1)] 2 = mkF m 0 #[.val (.ref x0), .val (.int x1)] [] := by first | (simp [entryFrame, mkF, argsToLocals, Value.category]; done) | rfl
def Q_rm_gB (Z : State) (a1 : Addr) (i1 : Int32) (i : Nat) (t1 : Addr) (vals : Nat → Int32) (h0 : Heap) (n0 : Nat) (v : Option Value) (h : Heap) (L : List Loc) : Prop := v = some (.int (vals i)) ∧ Fr n0 L ∧ h = h0
set_option maxRecDepth 65536 in
set_option maxHeartbeats 40000000 in
theorem rm_gB (l : Launch) (Z : State) (a0 : Array Value) (hw : ∀ d ∈ tables_1, d.before a0 Z = true) (ws : List Jvm.Cond) (a1 : Addr) (i1 : Int32) (i : Nat) (t1 : Addr) (vals : Nat → Int32) (h0 : Heap) (n0 : Nat) (Z0 : n0 ≤ h0.size) (F575 : Exa Z h0 a1 "com/example/joinery/joinery/NarrowInts") (F576 : Fld Z h0 a1 "com/example/joinery/joinery/NarrowInts" "capacity" "I" (.int (4 : Int32))) (F577 : Fld Z h0 a1 "com/example/joinery/joinery/NarrowInts" "bytes" "[B" (.ref t1)) (F578 : Fld Z h0 a1 "com/example/joinery/joinery/NarrowInts" "chars" "[C" .null) (F579 : Fld Z h0 a1 "com/example/joinery/joinery/NarrowInts" "ints" "[I" .null) (F580 : ArF Z h0 t1 .byte 4 (fun q => (.int (own_nb (vals q))))) (hi : i1.toInt = (i : Int) ∧ i < 4) (hrg : ∀ i, i < 4 → own_byte (vals i)) :
    MetFree l (⟨"com/example/joinery/joinery/NarrowInts", "get", "(I)I"⟩ : MethodName) (head1 (Jvm.Cond.code (⟨"com/example/joinery/joinery/NarrowInts", "get", "(I)I"⟩ : MethodName) prog_31_method_5_code 2 (some .int) :: ws) ({ frames := 0, cells := 0, slots := 0, locals := 0 } : Room)) (fun a U => a = #[(.ref a1), (.int i1)] ∧ Z.Warmed39 U.vm ∧ U.heap = h0) (fun _ _ _ _ _ => True) (fun _ U o U' => ∃ v L, o = .returned v ∧ Q_rm_gB Z a1 i1 i t1 vals h0 n0 v U'.heap L ∧ FrameEnd U o U' L ({ frames := 0, cells := 0, slots := 0, locals := 0 } : Room).cells ({ frames := 0, cells := 0, slots := 0, locals := 0 } : Room).slots) := by
  refine MetFree.of_bodySF (plainFor_of_name pn_0) hisR ?_
  intro p e s m args below meth c s₁ Bd hml0 hP hK
  obtain ⟨rfl, hZ, hh⟩ := hP
  have hx := Bd.exec
  have hby := Bd.bytes
  have hml : c.maxLocals = 2 := hml0
  have hown : s.vm.findClass "com/example/joinery/joinery/NarrowInts" = some m.cls := findClass_of_methodNamed Bd.named
  have hnm := (name_of_methodNamed Bd.named Bd.method).1
  have X0 : Stand p l e ({ frames := 0, cells := 0, slots := 0, locals := 0 } : Room) s m #[(.ref a1), (.int i1)] below meth c s₁ [] 0 0 := Stand.of_body Bd
  have e0 : s₁.heap = h0 := by rw [← hh, Bd.state]; rfl
  have N0 := Fr.nil n0
  have pre0 : ∀ t, Steps p.tables e below (s₁.setTop (mkF m 0 #[.val (.ref a1), .val (.int i1)] [])) t → Steps p.tables e below (s₁.setTop (entryFrame m #[(.ref a1), (.int i1)] 2)) t := fun t k => castTop (ef_rm_gB m a1 i1) k
  have S581 : ∀ t, Steps p.tables e below (s₁.setTop (mkF m 1 #[.val (.ref a1), .val (.int i1)] [(.ref a1)])) t → Steps p.tables e below (s₁.setTop (mkF m 0 #[.val (.ref a1), .val (.int i1)] [])) t := by
    intro t kt
    show Steps p.tables e below (s₁.setTop (mkF m 0 #[.val (.ref a1), .val (.int i1)] [])) _
    refine XS.aloadN X0.here hx rfl (hb hby d4_0) rfl rfl ?_
    exact kt
  obtain ⟨T582, X582, e582, st582⟩ := getF X0 hx hZ hown (host := "") (Or.inl (hw _ (List.mem_of_getElem? (i := 12) rfl))) Via.refl e0 F577 (g := (mkF m 1 #[.val (.ref a1), .val (.int i1)] [(.ref a1)])) rfl rfl (hb hby d4_1)
  have S583 : ∀ t, Steps p.tables e below (T582.setTop (mkF m 8 #[.val (.ref a1), .val (.int i1)] [(.ref a1)])) t → Steps p.tables e below (T582.setTop (mkF m 4 #[.val (.ref a1), .val (.int i1)] [(.ref t1)])) t := by
    intro t kt
    show Steps p.tables e below (T582.setTop (mkF m 4 #[.val (.ref a1), .val (.int i1)] [(.ref t1)])) _
    refine XS.ifnullNo X582.here hx rfl (hb hby d4_4) rfl ?_
    show Steps p.tables e below (T582.setTop (mkF m 7 #[.val (.ref a1), .val (.int i1)] [])) _
    refine XS.aloadN X582.here hx rfl (hb hby d4_7) rfl rfl ?_
    exact kt
  obtain ⟨T584, X584, e584, st584⟩ := getF X582 hx hZ hown (host := "") (Or.inl (hw _ (List.mem_of_getElem? (i := 12) rfl))) Via.refl e582 F577 (g := (mkF m 8 #[.val (.ref a1), .val (.int i1)] [(.ref a1)])) rfl rfl (hb hby d4_8)
  have S585 : ∀ t, Steps p.tables e below (T584.setTop (mkF m 17 #[.val (.ref a1), .val (.int i1)] [(.int ((own_nb (vals i)) &&& (255 : Int32)))])) t → Steps p.tables e below (T584.setTop (mkF m 11 #[.val (.ref a1), .val (.int i1)] [(.ref t1)])) t := by
    intro t kt
    show Steps p.tables e below (T584.setTop (mkF m 11 #[.val (.ref a1), .val (.int i1)] [(.ref t1)])) _
    refine XS.iloadN X584.here hx rfl (hb hby d4_11) rfl ?_
    show Steps p.tables e below (T584.setTop (mkF m 12 #[.val (.ref a1), .val (.int i1)] [(.int i1), (.ref t1)])) _
    refine ArF.ldB X584 hx hZ e584 F580 (i := i) hi.1 hi.2 (v := (own_nb (vals i))) rfl (g := (mkF m 12 #[.val (.ref a1), .val (.int i1)] [(.int i1), (.ref t1)])) rfl rfl (hb hby d4_12) _ ?_
    show Steps p.tables e below (T584.setTop (mkF m 13 #[.val (.ref a1), .val (.int i1)] [(.int (own_nb (vals i)))])) _
    refine XS.sipush X584.here hx rfl (hb hby d4_13) ?_
    show Steps p.tables e below (T584.setTop (mkF m 16 #[.val (.ref a1), .val (.int i1)] [(.int (255 : Int32)), (.int (own_nb (vals i)))])) _
    refine XS.iand X584.here hx rfl (hb hby d4_16) rfl ?_
    exact kt
  have C586 : ∀ t, Steps p.tables e below (T584.setTop (mkF m 17 #[.val (.ref a1), .val (.int i1)] [(.int ((own_nb (vals i)) &&& (255 : Int32)))])) t → Steps p.tables e below (s₁.setTop (mkF m 0 #[.val (.ref a1), .val (.int i1)] [])) t := (fun t k => (S581 t (st582 t (S583 t (st584 t (S585 t k))))))
  obtain ⟨fs, hr, hrun, hended, hW, hsame⟩ := X584.leave (v := some (.int ((own_nb (vals i)) &&& (255 : Int32)))) (fun h => by rw [Bd.returns] at h; cases h)
  refine ⟨_, _, pre0 _ (C586 _ ?_), hrun, hended, _, _, rfl, ?_, ⟨_, rfl⟩, hW, hsame.mono (by decide) (by decide)⟩
  · exact retOut X584 hx (t := .int) Bd.returns rfl (Or.inl ⟨rfl, Or.inl rfl, _, rfl⟩) (hb hby d4_17) hr
  · show Q_rm_gB Z a1 i1 i t1 vals h0 n0 _ T584.heap _
    rw [e584]
    exact ⟨by rw [own_byte_back (hrg i hi.2)], N0, rfl⟩
theorem ef_rm_gC (m : MethodId) (x0 : Addr) (x1 : Int32) : entryFrame m #[(.ref x0), (.int x1)] 2 = mkF m 0 #[.val (.ref x0), .val (.int x1)] [] := by first | (simp [entryFrame, mkF, argsToLocals, Value.category]; done) | rfl
def Q_rm_gC (Z : State) (a1 : Addr) (i1 : Int32) (i : Nat) (t1 : Addr) (vals : Nat → Int32) (h0 : Heap) (n0 : Nat) (v : Option Value) (h : Heap) (L : List Loc) : Prop := v = some (.int (vals i)) ∧ Fr n0 L ∧ h = h0
set_option maxRecDepth 65536 in
set_option maxHeartbeats 40000000 in
theorem rm_gC (l : Launch) (Z : State) (a0 : Array Value) (hw : ∀ d ∈ tables_1, d.before a0 Z = true) (ws : List Jvm.Cond) (a1 : Addr) (i1 : Int32) (i : Nat) (t1 : Addr) (vals : Nat → Int32) (h0 : Heap) (n0 : Nat) (Z0 : n0 ≤ h0.size) (F587 : Exa Z h0 a1 "com/example/joinery/joinery/NarrowInts") (F588 : Fld Z h0 a1 "com/example/joinery/joinery/NarrowInts" "capacity" "I" (.int (4 : Int32))) (F589 : Fld Z h0 a1 "com/example/joinery/joinery/NarrowInts" "bytes" "[B" .null) (F590 : Fld Z h0 a1 "com/example/joinery/joinery/NarrowInts" "chars" "[C" (.ref t1)) (F591 : Fld Z h0 a1 "com/example/joinery/joinery/NarrowInts" "ints" "[I" .null) (F592 : ArF Z h0 t1 .char 4 (fun q => (.int (vals q)))) (hi : i1.toInt = (i : Int) ∧ i < 4) :
    MetFree l (⟨"com/example/joinery/joinery/NarrowInts", "get", "(I)I"⟩ : MethodName) (head1 (Jvm.Cond.code (⟨"com/example/joinery/joinery/NarrowInts", "get", "(I)I"⟩ : MethodName) prog_31_method_5_code 2 (some .int) :: ws) ({ frames := 0, cells := 0, slots := 0, locals := 0 } : Room)) (fun a U => a = #[(.ref a1), (.int i1)] ∧ Z.Warmed39 U.vm ∧ U.heap = h0) (fun _ _ _ _ _ => True) (fun _ U o U' => ∃ v L, o = .returned v ∧ Q_rm_gC Z a1 i1 i t1 vals h0 n0 v U'.heap L ∧ FrameEnd U o U' L ({ frames := 0, cells := 0, slots := 0, locals := 0 } : Room).cells ({ frames := 0, cells := 0, slots := 0, locals := 0 } : Room).slots) := by
  refine MetFree.of_bodySF (plainFor_of_name pn_0) hisR ?_
  intro p e s m args below meth c s₁ Bd hml0 hP hK
  obtain ⟨rfl, hZ, hh⟩ := hP
  have hx := Bd.exec
  have hby := Bd.bytes
  have hml : c.maxLocals = 2 := hml0
  have hown : s.vm.findClass "com/example/joinery/joinery/NarrowInts" = some m.cls := findClass_of_methodNamed Bd.named
  have hnm := (name_of_methodNamed Bd.named Bd.method).1
  have X0 : Stand p l e ({ frames := 0, cells := 0, slots := 0, locals := 0 } : Room) s m #[(.ref a1), (.int i1)] below meth c s₁ [] 0 0 := Stand.of_body Bd
  have e0 : s₁.heap = h0 := by rw [← hh, Bd.state]; rfl
  have N0 := Fr.nil n0
  have pre0 : ∀ t, Steps p.tables e below (s₁.setTop (mkF m 0 #[.val (.ref a1), .val (.int i1)] [])) t → Steps p.tables e below (s₁.setTop (entryFrame m #[(.ref a1), (.int i1)] 2)) t := fun t k => castTop (ef_rm_gC m a1 i1) k
  have S593 : ∀ t, Steps p.tables e below (s₁.setTop (mkF m 1 #[.val (.ref a1), .val (.int i1)] [(.ref a1)])) t → Steps p.tables e below (s₁.setTop (mkF m 0 #[.val (.ref a1), .val (.int i1)] [])) t := by
    intro t kt
    show Steps p.tables e below (s₁.setTop (mkF m 0 #[.val (.ref a1), .val (.int i1)] [])) _
    refine XS.aloadN X0.here hx rfl (hb hby d4_0) rfl rfl ?_
    exact kt
  obtain ⟨T594, X594, e594, st594⟩ := getF X0 hx hZ hown (host := "") (Or.inl (hw _ (List.mem_of_getElem? (i := 12) rfl))) Via.refl e0 F589 (g := (mkF m 1 #[.val (.ref a1), .val (.int i1)] [(.ref a1)])) rfl rfl (hb hby d4_1)
  have S595 : ∀ t, Steps p.tables e below (T594.setTop (mkF m 19 #[.val (.ref a1), .val (.int i1)] [(.ref a1)])) t → Steps p.tables e below (T594.setTop (mkF m 4 #[.val (.ref a1), .val (.int i1)] [.null])) t := by
    intro t kt
    show Steps p.tables e below (T594.setTop (mkF m 4 #[.val (.ref a1), .val (.int i1)] [.null])) _
    refine XS.ifnullYes X594.here hx rfl (pc0 := 4) (pc' := 18) rfl (hb hby d4_4) rfl (by decide) (by decide) ?_
    show Steps p.tables e below (T594.setTop (mkF m 18 #[.val (.ref a1), .val (.int i1)] [])) _
    refine XS.aloadN X594.here hx rfl (hb hby d4_18) rfl rfl ?_
    exact kt
  obtain ⟨T596, X596, e596, st596⟩ := getF X594 hx hZ hown (host := "") (Or.inl (hw _ (List.mem_of_getElem? (i := 24) rfl))) Via.refl e594 F590 (g := (mkF m 19 #[.val (.ref a1), .val (.int i1)] [(.ref a1)])) rfl rfl (hb hby d4_19)
  have S597 : ∀ t, Steps p.tables e below (T596.setTop (mkF m 26 #[.val (.ref a1), .val (.int i1)] [(.ref a1)])) t → Steps p.tables e below (T596.setTop (mkF m 22 #[.val (.ref a1), .val (.int i1)] [(.ref t1)])) t := by
    intro t kt
    show Steps p.tables e below (T596.setTop (mkF m 22 #[.val (.ref a1), .val (.int i1)] [(.ref t1)])) _
    refine XS.ifnullNo X596.here hx rfl (hb hby d4_22) rfl ?_
    show Steps p.tables e below (T596.setTop (mkF m 25 #[.val (.ref a1), .val (.int i1)] [])) _
    refine XS.aloadN X596.here hx rfl (hb hby d4_25) rfl rfl ?_
    exact kt
  obtain ⟨T598, X598, e598, st598⟩ := getF X596 hx hZ hown (host := "") (Or.inl (hw _ (List.mem_of_getElem? (i := 24) rfl))) Via.refl e596 F590 (g := (mkF m 26 #[.val (.ref a1), .val (.int i1)] [(.ref a1)])) rfl rfl (hb hby d4_26)
  have S599 : ∀ t, Steps p.tables e below (T598.setTop (mkF m 31 #[.val (.ref a1), .val (.int i1)] [(.int (vals i))])) t → Steps p.tables e below (T598.setTop (mkF m 29 #[.val (.ref a1), .val (.int i1)] [(.ref t1)])) t := by
    intro t kt
    show Steps p.tables e below (T598.setTop (mkF m 29 #[.val (.ref a1), .val (.int i1)] [(.ref t1)])) _
    refine XS.iloadN X598.here hx rfl (hb hby d4_29) rfl ?_
    show Steps p.tables e below (T598.setTop (mkF m 30 #[.val (.ref a1), .val (.int i1)] [(.int i1), (.ref t1)])) _
    refine ArF.ldC X598 hx hZ e598 F592 (i := i) hi.1 hi.2 (v := (vals i)) rfl (g := (mkF m 30 #[.val (.ref a1), .val (.int i1)] [(.int i1), (.ref t1)])) rfl rfl (hb hby d4_30) _ ?_
    exact kt
  have C600 : ∀ t, Steps p.tables e below (T598.setTop (mkF m 31 #[.val (.ref a1), .val (.int i1)] [(.int (vals i))])) t → Steps p.tables e below (s₁.setTop (mkF m 0 #[.val (.ref a1), .val (.int i1)] [])) t := (fun t k => (S593 t (st594 t (S595 t (st596 t (S597 t (st598 t (S599 t k))))))))
  obtain ⟨fs, hr, hrun, hended, hW, hsame⟩ := X598.leave (v := some (.int (vals i))) (fun h => by rw [Bd.returns] at h; cases h)
  refine ⟨_, _, pre0 _ (C600 _ ?_), hrun, hended, _, _, rfl, ?_, ⟨_, rfl⟩, hW, hsame.mono (by decide) (by decide)⟩
  · exact retOut X598 hx (t := .int) Bd.returns rfl (Or.inl ⟨rfl, Or.inl rfl, _, rfl⟩) (hb hby d4_31) hr
  · show Q_rm_gC Z a1 i1 i t1 vals h0 n0 _ T598.heap _
    rw [e598]
    exact ⟨rfl, N0, rfl⟩
theorem ef_rm_gI (m : MethodId) (x0 : Addr) (x1 : Int32) : entryFrame m #[(.ref x0), (.int x1)] 2 = mkF m 0 #[.val (.ref x0), .val (.int x1)] [] := by first | (simp [entryFrame, mkF, argsToLocals, Value.category]; done) | rfl
def Q_rm_gI (Z : State) (a1 : Addr) (i1 : Int32) (i : Nat) (t1 : Addr) (vals : Nat → Int32) (h0 : Heap) (n0 : Nat) (v : Option Value) (h : Heap) (L : List Loc) : Prop := v = some (.int (vals i)) ∧ Fr n0 L ∧ h = h0
set_option maxRecDepth 65536 in
set_option maxHeartbeats 40000000 in
theorem rm_gI (l : Launch) (Z : State) (a0 : Array Value) (hw : ∀ d ∈ tables_1, d.before a0 Z = true) (ws : List Jvm.Cond) (a1 : Addr) (i1 : Int32) (i : Nat) (t1 : Addr) (vals : Nat → Int32) (h0 : Heap) (n0 : Nat) (Z0 : n0 ≤ h0.size) (F601 : Exa Z h0 a1 "com/example/joinery/joinery/NarrowInts") (F602 : Fld Z h0 a1 "com/example/joinery/joinery/NarrowInts" "capacity" "I" (.int (4 : Int32))) (F603 : Fld Z h0 a1 "com/example/joinery/joinery/NarrowInts" "bytes" "[B" .null) (F604 : Fld Z h0 a1 "com/example/joinery/joinery/NarrowInts" "chars" "[C" .null) (F605 : Fld Z h0 a1 "com/example/joinery/joinery/NarrowInts" "ints" "[I" (.ref t1)) (F606 : ArF Z h0 t1 .int 4 (fun q => (.int (vals q)))) (hi : i1.toInt = (i : Int) ∧ i < 4) :
    MetFree l (⟨"com/example/joinery/joinery/NarrowInts", "get", "(I)I"⟩ : MethodName) (head1 (Jvm.Cond.code (⟨"com/example/joinery/joinery/NarrowInts", "get", "(I)I"⟩ : MethodName) prog_31_method_5_code 2 (some .int) :: ws) ({ frames := 0, cells := 0, slots := 0, locals := 0 } : Room)) (fun a U => a = #[(.ref a1), (.int i1)] ∧ Z.Warmed39 U.vm ∧ U.heap = h0) (fun _ _ _ _ _ => True) (fun _ U o U' => ∃ v L, o = .returned v ∧ Q_rm_gI Z a1 i1 i t1 vals h0 n0 v U'.heap L ∧ FrameEnd U o U' L ({ frames := 0, cells := 0, slots := 0, locals := 0 } : Room).cells ({ frames := 0, cells := 0, slots := 0, locals := 0 } : Room).slots) := by
  refine MetFree.of_bodySF (plainFor_of_name pn_0) hisR ?_
  intro p e s m args below meth c s₁ Bd hml0 hP hK
  obtain ⟨rfl, hZ, hh⟩ := hP
  have hx := Bd.exec
  have hby := Bd.bytes
  have hml : c.maxLocals = 2 := hml0
  have hown : s.vm.findClass "com/example/joinery/joinery/NarrowInts" = some m.cls := findClass_of_methodNamed Bd.named
  have hnm := (name_of_methodNamed Bd.named Bd.method).1
  have X0 : Stand p l e ({ frames := 0, cells := 0, slots := 0, locals := 0 } : Room) s m #[(.ref a1), (.int i1)] below meth c s₁ [] 0 0 := Stand.of_body Bd
  have e0 : s₁.heap = h0 := by rw [← hh, Bd.state]; rfl
  have N0 := Fr.nil n0
  have pre0 : ∀ t, Steps p.tables e below (s₁.setTop (mkF m 0 #[.val (.ref a1), .val (.int i1)] [])) t → Steps p.tables e below (s₁.setTop (entryFrame m #[(.ref a1), (.int i1)] 2)) t := fun t k => castTop (ef_rm_gI m a1 i1) k
  have S607 : ∀ t, Steps p.tables e below (s₁.setTop (mkF m 1 #[.val (.ref a1), .val (.int i1)] [(.ref a1)])) t → Steps p.tables e below (s₁.setTop (mkF m 0 #[.val (.ref a1), .val (.int i1)] [])) t := by
    intro t kt
    show Steps p.tables e below (s₁.setTop (mkF m 0 #[.val (.ref a1), .val (.int i1)] [])) _
    refine XS.aloadN X0.here hx rfl (hb hby d4_0) rfl rfl ?_
    exact kt
  obtain ⟨T608, X608, e608, st608⟩ := getF X0 hx hZ hown (host := "") (Or.inl (hw _ (List.mem_of_getElem? (i := 12) rfl))) Via.refl e0 F603 (g := (mkF m 1 #[.val (.ref a1), .val (.int i1)] [(.ref a1)])) rfl rfl (hb hby d4_1)
  have S609 : ∀ t, Steps p.tables e below (T608.setTop (mkF m 19 #[.val (.ref a1), .val (.int i1)] [(.ref a1)])) t → Steps p.tables e below (T608.setTop (mkF m 4 #[.val (.ref a1), .val (.int i1)] [.null])) t := by
    intro t kt
    show Steps p.tables e below (T608.setTop (mkF m 4 #[.val (.ref a1), .val (.int i1)] [.null])) _
    refine XS.ifnullYes X608.here hx rfl (pc0 := 4) (pc' := 18) rfl (hb hby d4_4) rfl (by decide) (by decide) ?_
    show Steps p.tables e below (T608.setTop (mkF m 18 #[.val (.ref a1), .val (.int i1)] [])) _
    refine XS.aloadN X608.here hx rfl (hb hby d4_18) rfl rfl ?_
    exact kt
  obtain ⟨T610, X610, e610, st610⟩ := getF X608 hx hZ hown (host := "") (Or.inl (hw _ (List.mem_of_getElem? (i := 24) rfl))) Via.refl e608 F604 (g := (mkF m 19 #[.val (.ref a1), .val (.int i1)] [(.ref a1)])) rfl rfl (hb hby d4_19)
  have S611 : ∀ t, Steps p.tables e below (T610.setTop (mkF m 33 #[.val (.ref a1), .val (.int i1)] [(.ref a1)])) t → Steps p.tables e below (T610.setTop (mkF m 22 #[.val (.ref a1), .val (.int i1)] [.null])) t := by
    intro t kt
    show Steps p.tables e below (T610.setTop (mkF m 22 #[.val (.ref a1), .val (.int i1)] [.null])) _
    refine XS.ifnullYes X610.here hx rfl (pc0 := 22) (pc' := 32) rfl (hb hby d4_22) rfl (by decide) (by decide) ?_
    show Steps p.tables e below (T610.setTop (mkF m 32 #[.val (.ref a1), .val (.int i1)] [])) _
    refine XS.aloadN X610.here hx rfl (hb hby d4_32) rfl rfl ?_
    exact kt
  obtain ⟨T612, X612, e612, st612⟩ := getF X610 hx hZ hown (host := "") (Or.inl (hw _ (List.mem_of_getElem? (i := 26) rfl))) Via.refl e610 F605 (g := (mkF m 33 #[.val (.ref a1), .val (.int i1)] [(.ref a1)])) rfl rfl (hb hby d4_33)
  have S613 : ∀ t, Steps p.tables e below (T612.setTop (mkF m 38 #[.val (.ref a1), .val (.int i1)] [(.int (vals i))])) t → Steps p.tables e below (T612.setTop (mkF m 36 #[.val (.ref a1), .val (.int i1)] [(.ref t1)])) t := by
    intro t kt
    show Steps p.tables e below (T612.setTop (mkF m 36 #[.val (.ref a1), .val (.int i1)] [(.ref t1)])) _
    refine XS.iloadN X612.here hx rfl (hb hby d4_36) rfl ?_
    show Steps p.tables e below (T612.setTop (mkF m 37 #[.val (.ref a1), .val (.int i1)] [(.int i1), (.ref t1)])) _
    refine ArF.ldI X612 hx hZ e612 F606 (i := i) hi.1 hi.2 (v := (vals i)) rfl (g := (mkF m 37 #[.val (.ref a1), .val (.int i1)] [(.int i1), (.ref t1)])) rfl rfl (hb hby d4_37) _ ?_
    exact kt
  have C614 : ∀ t, Steps p.tables e below (T612.setTop (mkF m 38 #[.val (.ref a1), .val (.int i1)] [(.int (vals i))])) t → Steps p.tables e below (s₁.setTop (mkF m 0 #[.val (.ref a1), .val (.int i1)] [])) t := (fun t k => (S607 t (st608 t (S609 t (st610 t (S611 t (st612 t (S613 t k))))))))
  obtain ⟨fs, hr, hrun, hended, hW, hsame⟩ := X612.leave (v := some (.int (vals i))) (fun h => by rw [Bd.returns] at h; cases h)
  refine ⟨_, _, pre0 _ (C614 _ ?_), hrun, hended, _, _, rfl, ?_, ⟨_, rfl⟩, hW, hsame.mono (by decide) (by decide)⟩
  · exact retOut X612 hx (t := .int) Bd.returns rfl (Or.inl ⟨rfl, Or.inl rfl, _, rfl⟩) (hb hby d4_38) hr
  · show Q_rm_gI Z a1 i1 i t1 vals h0 n0 _ T612.heap _
    rw [e612]
    exact ⟨rfl, N0, rfl⟩
def Q_rm_get (Z : State) (a1 : Addr) (i1 : Int32) (i : Nat) (vals : Nat → Int32) (h0 : Heap) (n0 : Nat) (v : Option Value) (h : Heap) (L : List Loc) : Prop := v = some (.int (vals i)) ∧ Fr n0 L ∧ h = h0
theorem rm_get (l : Launch) (Z : State) (a0 : Array Value) (hw : ∀ d ∈ tables_1, d.before a0 Z = true) (ws : List Jvm.Cond) (a1 : Addr) (i1 : Int32) (i : Nat) (vals : Nat → Int32) (h0 : Heap) (n0 : Nat) (Z0 : n0 ≤ h0.size) (H : own_NI Z h0 n0 a1 vals) (hi : i1.toInt = (i : Int) ∧ i < 4) :
    MetFree l (⟨"com/example/joinery/joinery/NarrowInts", "get", "(I)I"⟩ : MethodName) (head1 (Jvm.Cond.code (⟨"com/example/joinery/joinery/NarrowInts", "get", "(I)I"⟩ : MethodName) prog_31_method_5_code 2 (some .int) :: ws) ({ frames := 0, cells := 0, slots := 0, locals := 0 } : Room)) (fun a U => a = #[(.ref a1), (.int i1)] ∧ Z.Warmed39 U.vm ∧ U.heap = h0) (fun _ _ _ _ _ => True) (fun _ U o U' => ∃ v L, o = .returned v ∧ Q_rm_get Z a1 i1 i vals h0 n0 v U'.heap L ∧ FrameEnd U o U' L ({ frames := 0, cells := 0, slots := 0, locals := 0 } : Room).cells ({ frames := 0, cells := 0, slots := 0, locals := 0 } : Room).slots) := by
  rcases H with ⟨t, ⟨g, gt, ne, E, K⟩, f1, f2, f3, A, hrg⟩ | ⟨t, ⟨g, gt, ne, E, K⟩, f1, f2, f3, A, hrg⟩ | ⟨t, ⟨g, gt, ne, E, K⟩, f1, f2, f3, A⟩
  · exact rm_gB l Z a0 hw ws a1 i1 i t vals h0 n0 Z0 E K f1 f2 f3 A hi hrg
  · exact rm_gC l Z a0 hw ws a1 i1 i t vals h0 n0 Z0 E K f1 f2 f3 A hi
  · exact rm_gI l Z a0 hw ws a1 i1 i t vals h0 n0 Z0 E K f1 f2 f3 A hi
set_option maxRecDepth 65536 in
set_option maxHeartbeats 40000000 in
theorem rm_sCw (l : Launch) (Z : State) (a0 : Array Value) (hw : ∀ d ∈ tables_1, d.before a0 Z = true) (ws : List Jvm.Cond) (a1 : Addr) (i1 : Int32) (v1 : Int32) (i : Nat) (t1 : Addr) (vals : Nat → Int32) (h0 : Heap) (n0 : Nat) (Z0 : n0 ≤ h0.size) (F442 : Exa Z h0 a1 "com/example/joinery/joinery/NarrowInts") (F443 : Fld Z h0 a1 "com/example/joinery/joinery/NarrowInts" "capacity" "I" (.int (4 : Int32))) (F444 : Fld Z h0 a1 "com/example/joinery/joinery/NarrowInts" "bytes" "[B" .null) (F445 : Fld Z h0 a1 "com/example/joinery/joinery/NarrowInts" "chars" "[C" (.ref t1)) (F446 : Fld Z h0 a1 "com/example/joinery/joinery/NarrowInts" "ints" "[I" .null) (F447 : ArF Z h0 t1 .char 4 (fun q => (.int (vals q)))) (g_a1 : n0 ≤ a1) (g_t1 : n0 ≤ t1) (ne_a1_t1 : a1 ≠ t1) (hi : i1.toInt = (i : Int) ∧ i < 4) (hrg : ∀ i, i < 4 → own_char (vals i)) :
    MetFree l (⟨"com/example/joinery/joinery/NarrowInts", "set", "(II)V"⟩ : MethodName) (head1 (Jvm.Cond.code (⟨"com/example/joinery/joinery/NarrowInts", "set", "(II)V"⟩ : MethodName) prog_31_method_4_code 3 none :: ws) ({ frames := 2, cells := 2, slots := 8, locals := 64 } : Room)) (fun a U => a = #[(.ref a1), (.int i1), (.int v1)] ∧ Z.Warmed39 U.vm ∧ U.heap = h0) (fun _ _ _ _ _ => True) (fun _ U o U' => ∃ v L, o = .returned v ∧ Q_rm_sC Z a1 i1 v1 i t1 vals h0 n0 v U'.heap L ∧ FrameEnd U o U' L ({ frames := 2, cells := 2, slots := 8, locals := 64 } : Room).cells ({ frames := 2, cells := 2, slots := 8, locals := 64 } : Room).slots) := by
  refine MetFree.of_bodySF (plainFor_of_name pn_0) hisR ?_
  intro p e s m args below meth c s₁ Bd hml0 hP hK
  obtain ⟨rfl, hZ, hh⟩ := hP
  have hx := Bd.exec
  have hby := Bd.bytes
  have hml : c.maxLocals = 3 := hml0
  have hown : s.vm.findClass "com/example/joinery/joinery/NarrowInts" = some m.cls := findClass_of_methodNamed Bd.named
  have hnm := (name_of_methodNamed Bd.named Bd.method).1
  have X0 : Stand p l e ({ frames := 2, cells := 2, slots := 8, locals := 64 } : Room) s m #[(.ref a1), (.int i1), (.int v1)] below meth c s₁ [] 0 0 := Stand.of_body Bd
  have e0 : s₁.heap = h0 := by rw [← hh, Bd.state]; rfl
  have N0 := Fr.nil n0
  have pre0 : ∀ t, Steps p.tables e below (s₁.setTop (mkF m 0 #[.val (.ref a1), .val (.int i1), .val (.int v1)] [])) t → Steps p.tables e below (s₁.setTop (entryFrame m #[(.ref a1), (.int i1), (.int v1)] 3)) t := fun t k => castTop (ef_rm_sC m a1 i1 v1) k
  have S448 : ∀ t, Steps p.tables e below (s₁.setTop (mkF m 1 #[.val (.ref a1), .val (.int i1), .val (.int v1)] [(.ref a1)])) t → Steps p.tables e below (s₁.setTop (mkF m 0 #[.val (.ref a1), .val (.int i1), .val (.int v1)] [])) t := by
    intro t kt
    show Steps p.tables e below (s₁.setTop (mkF m 0 #[.val (.ref a1), .val (.int i1), .val (.int v1)] [])) _
    refine XS.aloadN X0.here hx rfl (hb hby d3_0) rfl rfl ?_
    exact kt
  obtain ⟨T449, X449, e449, st449⟩ := getF X0 hx hZ hown (host := "") (Or.inl (hw _ (List.mem_of_getElem? (i := 12) rfl))) Via.refl e0 F444 (g := (mkF m 1 #[.val (.ref a1), .val (.int i1), .val (.int v1)] [(.ref a1)])) rfl rfl (hb hby d3_1)
  have S450 : ∀ t, Steps p.tables e below (T449.setTop (mkF m 30 #[.val (.ref a1), .val (.int i1), .val (.int v1)] [(.ref a1)])) t → Steps p.tables e below (T449.setTop (mkF m 4 #[.val (.ref a1), .val (.int i1), .val (.int v1)] [.null])) t := by
    intro t kt
    show Steps p.tables e below (T449.setTop (mkF m 4 #[.val (.ref a1), .val (.int i1), .val (.int v1)] [.null])) _
    refine XS.ifnullYes X449.here hx rfl (pc0 := 4) (pc' := 29) rfl (hb hby d3_4) rfl (by decide) (by decide) ?_
    show Steps p.tables e below (T449.setTop (mkF m 29 #[.val (.ref a1), .val (.int i1), .val (.int v1)] [])) _
    refine XS.aloadN X449.here hx rfl (hb hby d3_29) rfl rfl ?_
    exact kt
  obtain ⟨T451, X451, e451, st451⟩ := getF X449 hx hZ hown (host := "") (Or.inl (hw _ (List.mem_of_getElem? (i := 24) rfl))) Via.refl e449 F445 (g := (mkF m 30 #[.val (.ref a1), .val (.int i1), .val (.int v1)] [(.ref a1)])) rfl rfl (hb hby d3_30)
  have S452 : ∀ t, Steps p.tables e below (T451.setTop (mkF m 37 #[.val (.ref a1), .val (.int i1), .val (.int v1)] [(.int v1)])) t → Steps p.tables e below (T451.setTop (mkF m 33 #[.val (.ref a1), .val (.int i1), .val (.int v1)] [(.ref t1)])) t := by
    intro t kt
    show Steps p.tables e below (T451.setTop (mkF m 33 #[.val (.ref a1), .val (.int i1), .val (.int v1)] [(.ref t1)])) _
    refine XS.ifnullNo X451.here hx rfl (hb hby d3_33) rfl ?_
    show Steps p.tables e below (T451.setTop (mkF m 36 #[.val (.ref a1), .val (.int i1), .val (.int v1)] [])) _
    refine XS.iloadN X451.here hx rfl (hb hby d3_36) rfl ?_
    exact kt
  by_cases hc453 : v1 < (0 : Int32)
  · have S454 : ∀ t, Steps p.tables e below (T451.setTop (mkF m 58 #[.val (.ref a1), .val (.int i1), .val (.int v1)] [(.ref a1)])) t → Steps p.tables e below (T451.setTop (mkF m 37 #[.val (.ref a1), .val (.int i1), .val (.int v1)] [(.int v1)])) t := by
      intro t kt
      show Steps p.tables e below (T451.setTop (mkF m 37 #[.val (.ref a1), .val (.int i1), .val (.int v1)] [(.int v1)])) _
      refine XS.ifYes X451.here hx rfl (pc0 := 37) (pc' := 57) rfl (hb hby d3_37) rfl ((if0 _ _).trans (tlt hc453).1) (by decide) (by decide) ?_
      show Steps p.tables e below (T451.setTop (mkF m 57 #[.val (.ref a1), .val (.int i1), .val (.int v1)] [])) _
      refine XS.aloadN X451.here hx rfl (hb hby d3_57) rfl rfl ?_
      exact kt
    obtain ⟨T455, X455, e455, st455⟩ := getF X451 hx hZ hown (host := "") (Or.inl (hw _ (List.mem_of_getElem? (i := 26) rfl))) Via.refl e451 F446 (g := (mkF m 58 #[.val (.ref a1), .val (.int i1), .val (.int v1)] [(.ref a1)])) rfl rfl (hb hby d3_58)
    have S456 : ∀ t, Steps p.tables e below (T455.setTop (mkF m 76 #[.val (.ref a1), .val (.int i1), .val (.int v1)] [(.int v1), (.ref a1)])) t → Steps p.tables e below (T455.setTop (mkF m 61 #[.val (.ref a1), .val (.int i1), .val (.int v1)] [.null])) t := by
      intro t kt
      show Steps p.tables e below (T455.setTop (mkF m 61 #[.val (.ref a1), .val (.int i1), .val (.int v1)] [.null])) _
      refine XS.ifnullYes X455.here hx rfl (pc0 := 61) (pc' := 74) rfl (hb hby d3_61) rfl (by decide) (by decide) ?_
      show Steps p.tables e below (T455.setTop (mkF m 74 #[.val (.ref a1), .val (.int i1), .val (.int v1)] [])) _
      refine XS.aloadN X455.here hx rfl (hb hby d3_74) rfl rfl ?_
      show Steps p.tables e below (T455.setTop (mkF m 75 #[.val (.ref a1), .val (.int i1), .val (.int v1)] [(.ref a1)])) _
      refine XS.iloadN X455.here hx rfl (hb hby d3_75) rfl ?_
      exact kt
    obtain ⟨cq457, q457, q457'⟩ := F442.cell
    obtain ⟨_, _, ⟨T457, L457, k457, n457⟩, -, X457, ⟨Lc457, hQ457, l457, y457, z457⟩, st457⟩ := X455.privateBack hx (y := (⟨"com/example/joinery/joinery/NarrowInts", "widenFor", "(I)V"⟩ : MethodName)) hown (mvT hZ (hw _ (List.mem_of_getElem? (i := 28) rfl))) (mvT hZ (hw _ (List.mem_of_getElem? (i := 29) rfl))) (own_selP hZ (hw _ (List.mem_of_getElem? (i := 1) rfl)) (hw _ (List.mem_of_getElem? (i := 30) rfl)) (hw _ (List.mem_of_getElem? (i := 29) rfl)) (by decide)) (Cond.privateMethod_at (mvP hZ (hw _ (List.mem_of_getElem? (i := 30) rfl)) (args := #[]))) (mvT hZ (hw _ (List.mem_of_getElem? (i := 31) rfl))) (by decide) (backOf (W := 0) (rm_wCI l Z a0 hw [] a1 v1 t1 vals h0 n0 Z0 F442 F443 F444 F445 F446 F447 g_a1 g_t1 ne_a1_t1) hZ (hw _ (List.mem_of_getElem? (i := 31) rfl)) (hw _ (List.mem_of_getElem? (i := 2) rfl)) (by decide) (by decide)) (g := (mkF m 76 #[.val (.ref a1), .val (.int i1), .val (.int v1)] [(.int v1), (.ref a1)])) rfl (by rw [hml]; rfl) (Steps.refl _) (a := a1) (by rw [e455]; exact q457) q457' (argsL := [(.int v1)]) (rest := []) (lenOf pd_0 rfl) rfl (by show 2 * 0 + _ ≤ _; exact Nat.le_of_eq rfl) (hb hby d3_76) (fun _ _ => ⟨rfl, e455, (by decide : 0 + 1 ≤ _), (by decide : 0 + 4 ≤ _)⟩)
    dsimp only [Pt.U, Pt.locs, Pt.cells, Pt.slots] at X457 l457 y457 z457 st457 hQ457
    subst l457 y457 z457
    obtain ⟨h457, e457⟩ : ∃ z, T457.heap = z := ⟨_, rfl⟩
    rw [e457] at hQ457
    obtain ⟨rfl, N457q, z458, hW_⟩ := hQ457
    have N457 := Fr.app N0 N457q
    obtain ⟨t459, ⟨-, g_t459, ne_a1_t459, F460, F461⟩, F462, F463, F464, F465⟩ := hW_
    have S466 : ∀ t, Steps p.tables e below (T457.setTop (mkF m 82 #[.val (.ref a1), .val (.int i1), .val (.int v1)] [(.int v1), (.int i1), (.ref a1)])) t → Steps p.tables e below (T457.setTop (mkF m 79 #[.val (.ref a1), .val (.int i1), .val (.int v1)] [])) t := by
      intro t kt
      show Steps p.tables e below (T457.setTop (mkF m 79 #[.val (.ref a1), .val (.int i1), .val (.int v1)] [])) _
      refine XS.aloadN X457.here hx rfl (hb hby d3_79) rfl rfl ?_
      show Steps p.tables e below (T457.setTop (mkF m 80 #[.val (.ref a1), .val (.int i1), .val (.int v1)] [(.ref a1)])) _
      refine XS.iloadN X457.here hx rfl (hb hby d3_80) rfl ?_
      show Steps p.tables e below (T457.setTop (mkF m 81 #[.val (.ref a1), .val (.int i1), .val (.int v1)] [(.int i1), (.ref a1)])) _
      refine XS.iloadN X457.here hx rfl (hb hby d3_81) rfl ?_
      exact kt
    obtain ⟨cq467, kq467, q467a, q467b, q467c⟩ := isOf hZ e457 F460
    obtain ⟨_, _, ⟨T467, L467, k467, n467⟩, -, X467, ⟨Lc467, hQ467, l467, y467, z467⟩, st467⟩ := X457.virtualBack hx (y := (⟨"com/example/joinery/joinery/NarrowInts", "set", "(II)V"⟩ : MethodName)) (z := (⟨"com/example/joinery/joinery/NarrowInts", "set", "(II)V"⟩ : MethodName)) hown (mvT hZ (hw _ (List.mem_of_getElem? (i := 34) rfl))) (mvT hZ (hw _ (List.mem_of_getElem? (i := 15) rfl))) (notFace_of_selects (args := #[]) (mvT hZ (hw _ (List.mem_of_getElem? (i := 17) rfl)))) (mvT hZ (hw _ (List.mem_of_getElem? (i := 17) rfl))) (mvT hZ (hw _ (List.mem_of_getElem? (i := 16) rfl))) (by decide) (backOf (W := 0) (rm_sI l Z a0 hw [] a1 i1 v1 i t459 vals h457 n0 z458 F460 F461 F462 F463 F464 F465 g_a1 g_t459 ne_a1_t459 hi) hZ (hw _ (List.mem_of_getElem? (i := 18) rfl)) (hw _ (List.mem_of_getElem? (i := 2) rfl)) (by decide) (by decide)) q467a q467c (g := (mkF m 82 #[.val (.ref a1), .val (.int i1), .val (.int v1)] [(.int v1), (.int i1), (.ref a1)])) rfl (by rw [hml]; rfl) (Steps.refl _) (argsL := [(.int i1), (.int v1)]) (rest := []) (lenOf pd_1 rfl) rfl (by show 2 * 0 + _ ≤ _; exact Nat.le_of_eq rfl) (hb hby d3_82) (fun _ _ => ⟨rfl, e457, (by decide : 1 + 0 ≤ _), (by decide : 4 + 0 ≤ _)⟩)
    dsimp only [Pt.U, Pt.locs, Pt.cells, Pt.slots] at X467 l467 y467 z467 st467 hQ467
    subst l467 y467 z467
    obtain ⟨h467, e467⟩ : ∃ z, T467.heap = z := ⟨_, rfl⟩
    rw [e467] at hQ467
    obtain ⟨rfl, N467q, z468, hV_⟩ := hQ467
    have N467 := Fr.app N457 N467q
    have C469 : ∀ t, Steps p.tables e below (T467.setTop (mkF m 85 #[.val (.ref a1), .val (.int i1), .val (.int v1)] [])) t → Steps p.tables e below (s₁.setTop (mkF m 0 #[.val (.ref a1), .val (.int i1), .val (.int v1)] [])) t := (fun t k => (S448 t (st449 t (S450 t (st451 t (S452 t (S454 t (st455 t (S456 t (st457.trans (S466 t (st467.trans k))))))))))))
    obtain ⟨fs, hr, hrun, hended, hW, hsame⟩ := X467.leave (v := none) (fun _ => rfl)
    refine ⟨_, _, pre0 _ (C469 _ ?_), hrun, hended, _, _, rfl, ?_, ⟨_, rfl⟩, hW, hsame.mono (by decide) (by decide)⟩
    · exact X467.returnOut hx Bd.returns (hb hby d3_85) hr
    · show Q_rm_sC Z a1 i1 v1 i t1 vals h0 n0 _ T467.heap _
      rw [e467]
      exact ⟨rfl, N467, z468, hV_⟩
  · have S470 : ∀ t, Steps p.tables e below (T451.setTop (mkF m 43 #[.val (.ref a1), .val (.int i1), .val (.int v1)] [(.int (65535 : Int32)), (.int v1)])) t → Steps p.tables e below (T451.setTop (mkF m 37 #[.val (.ref a1), .val (.int i1), .val (.int v1)] [(.int v1)])) t := by
      intro t kt
      show Steps p.tables e below (T451.setTop (mkF m 37 #[.val (.ref a1), .val (.int i1), .val (.int v1)] [(.int v1)])) _
      refine XS.ifNo X451.here hx rfl (hb hby d3_37) rfl ((if0 _ _).trans (flt hc453).1) ?_
      show Steps p.tables e below (T451.setTop (mkF m 40 #[.val (.ref a1), .val (.int i1), .val (.int v1)] [])) _
      refine XS.iloadN X451.here hx rfl (hb hby d3_40) rfl ?_
      show Steps p.tables e below (T451.setTop (mkF m 41 #[.val (.ref a1), .val (.int i1), .val (.int v1)] [(.int v1)])) _
      refine X451.ldcInt hx hown (mvT hZ (hw _ (List.mem_of_getElem? (i := 32) rfl))) (g := (mkF m 41 #[.val (.ref a1), .val (.int i1), .val (.int v1)] [(.int v1)])) rfl (hb hby d3_41) _ ?_
      exact kt
    by_cases hc471 : (65535 : Int32) < v1
    · have S472 : ∀ t, Steps p.tables e below (T451.setTop (mkF m 58 #[.val (.ref a1), .val (.int i1), .val (.int v1)] [(.ref a1)])) t → Steps p.tables e below (T451.setTop (mkF m 43 #[.val (.ref a1), .val (.int i1), .val (.int v1)] [(.int (65535 : Int32)), (.int v1)])) t := by
        intro t kt
        show Steps p.tables e below (T451.setTop (mkF m 43 #[.val (.ref a1), .val (.int i1), .val (.int v1)] [(.int (65535 : Int32)), (.int v1)])) _
        refine XS.icmpYes X451.here hx rfl (pc0 := 43) (pc' := 57) rfl (hb hby d3_43) rfl (tlt hc471).2.2.1 (by decide) (by decide) ?_
        show Steps p.tables e below (T451.setTop (mkF m 57 #[.val (.ref a1), .val (.int i1), .val (.int v1)] [])) _
        refine XS.aloadN X451.here hx rfl (hb hby d3_57) rfl rfl ?_
        exact kt
      obtain ⟨T473, X473, e473, st473⟩ := getF X451 hx hZ hown (host := "") (Or.inl (hw _ (List.mem_of_getElem? (i := 26) rfl))) Via.refl e451 F446 (g := (mkF m 58 #[.val (.ref a1), .val (.int i1), .val (.int v1)] [(.ref a1)])) rfl rfl (hb hby d3_58)
      have S474 : ∀ t, Steps p.tables e below (T473.setTop (mkF m 76 #[.val (.ref a1), .val (.int i1), .val (.int v1)] [(.int v1), (.ref a1)])) t → Steps p.tables e below (T473.setTop (mkF m 61 #[.val (.ref a1), .val (.int i1), .val (.int v1)] [.null])) t := by
        intro t kt
        show Steps p.tables e below (T473.setTop (mkF m 61 #[.val (.ref a1), .val (.int i1), .val (.int v1)] [.null])) _
        refine XS.ifnullYes X473.here hx rfl (pc0 := 61) (pc' := 74) rfl (hb hby d3_61) rfl (by decide) (by decide) ?_
        show Steps p.tables e below (T473.setTop (mkF m 74 #[.val (.ref a1), .val (.int i1), .val (.int v1)] [])) _
        refine XS.aloadN X473.here hx rfl (hb hby d3_74) rfl rfl ?_
        show Steps p.tables e below (T473.setTop (mkF m 75 #[.val (.ref a1), .val (.int i1), .val (.int v1)] [(.ref a1)])) _
        refine XS.iloadN X473.here hx rfl (hb hby d3_75) rfl ?_
        exact kt
      obtain ⟨cq475, q475, q475'⟩ := F442.cell
      obtain ⟨_, _, ⟨T475, L475, k475, n475⟩, -, X475, ⟨Lc475, hQ475, l475, y475, z475⟩, st475⟩ := X473.privateBack hx (y := (⟨"com/example/joinery/joinery/NarrowInts", "widenFor", "(I)V"⟩ : MethodName)) hown (mvT hZ (hw _ (List.mem_of_getElem? (i := 28) rfl))) (mvT hZ (hw _ (List.mem_of_getElem? (i := 29) rfl))) (own_selP hZ (hw _ (List.mem_of_getElem? (i := 1) rfl)) (hw _ (List.mem_of_getElem? (i := 30) rfl)) (hw _ (List.mem_of_getElem? (i := 29) rfl)) (by decide)) (Cond.privateMethod_at (mvP hZ (hw _ (List.mem_of_getElem? (i := 30) rfl)) (args := #[]))) (mvT hZ (hw _ (List.mem_of_getElem? (i := 31) rfl))) (by decide) (backOf (W := 0) (rm_wCI l Z a0 hw [] a1 v1 t1 vals h0 n0 Z0 F442 F443 F444 F445 F446 F447 g_a1 g_t1 ne_a1_t1) hZ (hw _ (List.mem_of_getElem? (i := 31) rfl)) (hw _ (List.mem_of_getElem? (i := 2) rfl)) (by decide) (by decide)) (g := (mkF m 76 #[.val (.ref a1), .val (.int i1), .val (.int v1)] [(.int v1), (.ref a1)])) rfl (by rw [hml]; rfl) (Steps.refl _) (a := a1) (by rw [e473]; exact q475) q475' (argsL := [(.int v1)]) (rest := []) (lenOf pd_0 rfl) rfl (by show 2 * 0 + _ ≤ _; exact Nat.le_of_eq rfl) (hb hby d3_76) (fun _ _ => ⟨rfl, e473, (by decide : 0 + 1 ≤ _), (by decide : 0 + 4 ≤ _)⟩)
      dsimp only [Pt.U, Pt.locs, Pt.cells, Pt.slots] at X475 l475 y475 z475 st475 hQ475
      subst l475 y475 z475
      obtain ⟨h475, e475⟩ : ∃ z, T475.heap = z := ⟨_, rfl⟩
      rw [e475] at hQ475
      obtain ⟨rfl, N475q, z476, hW_⟩ := hQ475
      have N475 := Fr.app N0 N475q
      obtain ⟨t477, ⟨-, g_t477, ne_a1_t477, F478, F479⟩, F480, F481, F482, F483⟩ := hW_
      have S484 : ∀ t, Steps p.tables e below (T475.setTop (mkF m 82 #[.val (.ref a1), .val (.int i1), .val (.int v1)] [(.int v1), (.int i1), (.ref a1)])) t → Steps p.tables e below (T475.setTop (mkF m 79 #[.val (.ref a1), .val (.int i1), .val (.int v1)] [])) t := by
        intro t kt
        show Steps p.tables e below (T475.setTop (mkF m 79 #[.val (.ref a1), .val (.int i1), .val (.int v1)] [])) _
        refine XS.aloadN X475.here hx rfl (hb hby d3_79) rfl rfl ?_
        show Steps p.tables e below (T475.setTop (mkF m 80 #[.val (.ref a1), .val (.int i1), .val (.int v1)] [(.ref a1)])) _
        refine XS.iloadN X475.here hx rfl (hb hby d3_80) rfl ?_
        show Steps p.tables e below (T475.setTop (mkF m 81 #[.val (.ref a1), .val (.int i1), .val (.int v1)] [(.int i1), (.ref a1)])) _
        refine XS.iloadN X475.here hx rfl (hb hby d3_81) rfl ?_
        exact kt
      obtain ⟨cq485, kq485, q485a, q485b, q485c⟩ := isOf hZ e475 F478
      obtain ⟨_, _, ⟨T485, L485, k485, n485⟩, -, X485, ⟨Lc485, hQ485, l485, y485, z485⟩, st485⟩ := X475.virtualBack hx (y := (⟨"com/example/joinery/joinery/NarrowInts", "set", "(II)V"⟩ : MethodName)) (z := (⟨"com/example/joinery/joinery/NarrowInts", "set", "(II)V"⟩ : MethodName)) hown (mvT hZ (hw _ (List.mem_of_getElem? (i := 34) rfl))) (mvT hZ (hw _ (List.mem_of_getElem? (i := 15) rfl))) (notFace_of_selects (args := #[]) (mvT hZ (hw _ (List.mem_of_getElem? (i := 17) rfl)))) (mvT hZ (hw _ (List.mem_of_getElem? (i := 17) rfl))) (mvT hZ (hw _ (List.mem_of_getElem? (i := 16) rfl))) (by decide) (backOf (W := 0) (rm_sI l Z a0 hw [] a1 i1 v1 i t477 vals h475 n0 z476 F478 F479 F480 F481 F482 F483 g_a1 g_t477 ne_a1_t477 hi) hZ (hw _ (List.mem_of_getElem? (i := 18) rfl)) (hw _ (List.mem_of_getElem? (i := 2) rfl)) (by decide) (by decide)) q485a q485c (g := (mkF m 82 #[.val (.ref a1), .val (.int i1), .val (.int v1)] [(.int v1), (.int i1), (.ref a1)])) rfl (by rw [hml]; rfl) (Steps.refl _) (argsL := [(.int i1), (.int v1)]) (rest := []) (lenOf pd_1 rfl) rfl (by show 2 * 0 + _ ≤ _; exact Nat.le_of_eq rfl) (hb hby d3_82) (fun _ _ => ⟨rfl, e475, (by decide : 1 + 0 ≤ _), (by decide : 4 + 0 ≤ _)⟩)
      dsimp only [Pt.U, Pt.locs, Pt.cells, Pt.slots] at X485 l485 y485 z485 st485 hQ485
      subst l485 y485 z485
      obtain ⟨h485, e485⟩ : ∃ z, T485.heap = z := ⟨_, rfl⟩
      rw [e485] at hQ485
      obtain ⟨rfl, N485q, z486, hV_⟩ := hQ485
      have N485 := Fr.app N475 N485q
      have C487 : ∀ t, Steps p.tables e below (T485.setTop (mkF m 85 #[.val (.ref a1), .val (.int i1), .val (.int v1)] [])) t → Steps p.tables e below (s₁.setTop (mkF m 0 #[.val (.ref a1), .val (.int i1), .val (.int v1)] [])) t := (fun t k => (S448 t (st449 t (S450 t (st451 t (S452 t (S470 t (S472 t (st473 t (S474 t (st475.trans (S484 t (st485.trans k)))))))))))))
      obtain ⟨fs, hr, hrun, hended, hW, hsame⟩ := X485.leave (v := none) (fun _ => rfl)
      refine ⟨_, _, pre0 _ (C487 _ ?_), hrun, hended, _, _, rfl, ?_, ⟨_, rfl⟩, hW, hsame.mono (by decide) (by decide)⟩
      · exact X485.returnOut hx Bd.returns (hb hby d3_85) hr
      · show Q_rm_sC Z a1 i1 v1 i t1 vals h0 n0 _ T485.heap _
        rw [e485]
        exact ⟨rfl, N485, z486, hV_⟩
    · have S488 : ∀ t, Steps p.tables e below (T451.setTop (mkF m 47 #[.val (.ref a1), .val (.int i1), .val (.int v1)] [(.ref a1)])) t → Steps p.tables e below (T451.setTop (mkF m 43 #[.val (.ref a1), .val (.int i1), .val (.int v1)] [(.int (65535 : Int32)), (.int v1)])) t := by
        intro t kt
        show Steps p.tables e below (T451.setTop (mkF m 43 #[.val (.ref a1), .val (.int i1), .val (.int v1)] [(.int (65535 : Int32)), (.int v1)])) _
        refine XS.icmpNo X451.here hx rfl (hb hby d3_43) rfl (flt hc471).2.2.1 ?_
        show Steps p.tables e below (T451.setTop (mkF m 46 #[.val (.ref a1), .val (.int i1), .val (.int v1)] [])) _
        refine XS.aloadN X451.here hx rfl (hb hby d3_46) rfl rfl ?_
        exact kt
      obtain ⟨T489, X489, e489, st489⟩ := getF X451 hx hZ hown (host := "") (Or.inl (hw _ (List.mem_of_getElem? (i := 24) rfl))) Via.refl e451 F445 (g := (mkF m 47 #[.val (.ref a1), .val (.int i1), .val (.int v1)] [(.ref a1)])) rfl rfl (hb hby d3_47)
      have S490 : ∀ t, Steps p.tables e below (T489.setTop (mkF m 53 #[.val (.ref a1), .val (.int i1), .val (.int v1)] [(.int (v1.toUInt32.toUInt16.toUInt32.toInt32)), (.int i1), (.ref t1)])) t → Steps p.tables e below (T489.setTop (mkF m 50 #[.val (.ref a1), .val (.int i1), .val (.int v1)] [(.ref t1)])) t := by
        intro t kt
        show Steps p.tables e below (T489.setTop (mkF m 50 #[.val (.ref a1), .val (.int i1), .val (.int v1)] [(.ref t1)])) _
        refine XS.iloadN X489.here hx rfl (hb hby d3_50) rfl ?_
        show Steps p.tables e below (T489.setTop (mkF m 51 #[.val (.ref a1), .val (.int i1), .val (.int v1)] [(.int i1), (.ref t1)])) _
        refine XS.iloadN X489.here hx rfl (hb hby d3_51) rfl ?_
        show Steps p.tables e below (T489.setTop (mkF m 52 #[.val (.ref a1), .val (.int i1), .val (.int v1)] [(.int v1), (.int i1), (.ref t1)])) _
        refine XS.i2c X489.here hx rfl (hb hby d3_52) rfl ?_
        exact kt
      obtain ⟨T491, h491, X491, e491, W491, V491, st491⟩ := ArF.stC X489 hx hZ e489 F447 (i := i) hi.1 hi.2 (g := (mkF m 53 #[.val (.ref a1), .val (.int i1), .val (.int v1)] [(.int (v1.toUInt32.toUInt16.toUInt32.toInt32)), (.int i1), (.ref t1)])) rfl rfl (hb hby d3_53)
      have z492 : n0 ≤ h491.size := Nat.le_trans Z0 (Keep.of_wr W491).1
      have N493 := Fr.snoc X491 N0 g_t1
      have V491' := V491.congr (f' := (fun q => (.int (own_put vals i v1 q)))) (own_setV (own_char_nar (own_is_char hc453 hc471)))
      have S494 : ∀ t, Steps p.tables e below (T491.setTop (mkF m 85 #[.val (.ref a1), .val (.int i1), .val (.int v1)] [])) t → Steps p.tables e below (T491.setTop (mkF m 54 #[.val (.ref a1), .val (.int i1), .val (.int v1)] [])) t := by
        intro t kt
        show Steps p.tables e below (T491.setTop (mkF m 54 #[.val (.ref a1), .val (.int i1), .val (.int v1)] [])) _
        refine XS.goto X491.here hx rfl (pc0 := 54) (pc' := 85) rfl (hb hby d3_54) (by decide) (by decide) ?_
        exact kt
      have C495 : ∀ t, Steps p.tables e below (T491.setTop (mkF m 85 #[.val (.ref a1), .val (.int i1), .val (.int v1)] [])) t → Steps p.tables e below (s₁.setTop (mkF m 0 #[.val (.ref a1), .val (.int i1), .val (.int v1)] [])) t := (fun t k => (S448 t (st449 t (S450 t (st451 t (S452 t (S470 t (S488 t (st489 t (S490 t (st491 t (S494 t k))))))))))))
      obtain ⟨fs, hr, hrun, hended, hW, hsame⟩ := X491.leave (v := none) (fun _ => rfl)
      refine ⟨_, _, pre0 _ (C495 _ ?_), hrun, hended, _, _, rfl, ?_, ⟨_, rfl⟩, hW, hsame.mono (by decide) (by decide)⟩
      · exact X491.returnOut hx Bd.returns (hb hby d3_85) hr
      · show Q_rm_sC Z a1 i1 v1 i t1 vals h0 n0 _ T491.heap _
        rw [e491]
        have f496 := (F442.wr W491)
        have f497 := (F443.other W491 (Or.inl ne_a1_t1))
        have f498 := (F444.other W491 (Or.inl ne_a1_t1))
        have f499 := (F445.other W491 (Or.inl ne_a1_t1))
        have f500 := (F446.other W491 (Or.inl ne_a1_t1))
        exact ⟨rfl, N493, z492, (Or.inr (Or.inl ⟨t1, ⟨g_a1, g_t1, ne_a1_t1, f496, f497⟩, f498, f499, f500, V491', own_put_all hrg i (own_is_char hc453 hc471)⟩))⟩
set_option maxRecDepth 65536 in
set_option maxHeartbeats 40000000 in
theorem rm_sIw (l : Launch) (Z : State) (a0 : Array Value) (hw : ∀ d ∈ tables_1, d.before a0 Z = true) (ws : List Jvm.Cond) (a1 : Addr) (i1 : Int32) (v1 : Int32) (i : Nat) (t1 : Addr) (vals : Nat → Int32) (h0 : Heap) (n0 : Nat) (Z0 : n0 ≤ h0.size) (F417 : Exa Z h0 a1 "com/example/joinery/joinery/NarrowInts") (F418 : Fld Z h0 a1 "com/example/joinery/joinery/NarrowInts" "capacity" "I" (.int (4 : Int32))) (F419 : Fld Z h0 a1 "com/example/joinery/joinery/NarrowInts" "bytes" "[B" .null) (F420 : Fld Z h0 a1 "com/example/joinery/joinery/NarrowInts" "chars" "[C" .null) (F421 : Fld Z h0 a1 "com/example/joinery/joinery/NarrowInts" "ints" "[I" (.ref t1)) (F422 : ArF Z h0 t1 .int 4 (fun q => (.int (vals q)))) (g_a1 : n0 ≤ a1) (g_t1 : n0 ≤ t1) (ne_a1_t1 : a1 ≠ t1) (hi : i1.toInt = (i : Int) ∧ i < 4) :
    MetFree l (⟨"com/example/joinery/joinery/NarrowInts", "set", "(II)V"⟩ : MethodName) (head1 (Jvm.Cond.code (⟨"com/example/joinery/joinery/NarrowInts", "set", "(II)V"⟩ : MethodName) prog_31_method_4_code 3 none :: ws) ({ frames := 2, cells := 2, slots := 8, locals := 64 } : Room)) (fun a U => a = #[(.ref a1), (.int i1), (.int v1)] ∧ Z.Warmed39 U.vm ∧ U.heap = h0) (fun _ _ _ _ _ => True) (fun _ U o U' => ∃ v L, o = .returned v ∧ Q_rm_sI Z a1 i1 v1 i t1 vals h0 n0 v U'.heap L ∧ FrameEnd U o U' L ({ frames := 2, cells := 2, slots := 8, locals := 64 } : Room).cells ({ frames := 2, cells := 2, slots := 8, locals := 64 } : Room).slots) := by
  refine MetFree.of_bodySF (plainFor_of_name pn_0) hisR ?_
  intro p e s m args below meth c s₁ Bd hml0 hP hK
  obtain ⟨rfl, hZ, hh⟩ := hP
  have hx := Bd.exec
  have hby := Bd.bytes
  have hml : c.maxLocals = 3 := hml0
  have hown : s.vm.findClass "com/example/joinery/joinery/NarrowInts" = some m.cls := findClass_of_methodNamed Bd.named
  have hnm := (name_of_methodNamed Bd.named Bd.method).1
  have X0 : Stand p l e ({ frames := 2, cells := 2, slots := 8, locals := 64 } : Room) s m #[(.ref a1), (.int i1), (.int v1)] below meth c s₁ [] 0 0 := Stand.of_body Bd
  have e0 : s₁.heap = h0 := by rw [← hh, Bd.state]; rfl
  have N0 := Fr.nil n0
  have pre0 : ∀ t, Steps p.tables e below (s₁.setTop (mkF m 0 #[.val (.ref a1), .val (.int i1), .val (.int v1)] [])) t → Steps p.tables e below (s₁.setTop (entryFrame m #[(.ref a1), (.int i1), (.int v1)] 3)) t := fun t k => castTop (ef_rm_sI m a1 i1 v1) k
  have S423 : ∀ t, Steps p.tables e below (s₁.setTop (mkF m 1 #[.val (.ref a1), .val (.int i1), .val (.int v1)] [(.ref a1)])) t → Steps p.tables e below (s₁.setTop (mkF m 0 #[.val (.ref a1), .val (.int i1), .val (.int v1)] [])) t := by
    intro t kt
    show Steps p.tables e below (s₁.setTop (mkF m 0 #[.val (.ref a1), .val (.int i1), .val (.int v1)] [])) _
    refine XS.aloadN X0.here hx rfl (hb hby d3_0) rfl rfl ?_
    exact kt
  obtain ⟨T424, X424, e424, st424⟩ := getF X0 hx hZ hown (host := "") (Or.inl (hw _ (List.mem_of_getElem? (i := 12) rfl))) Via.refl e0 F419 (g := (mkF m 1 #[.val (.ref a1), .val (.int i1), .val (.int v1)] [(.ref a1)])) rfl rfl (hb hby d3_1)
  have S425 : ∀ t, Steps p.tables e below (T424.setTop (mkF m 30 #[.val (.ref a1), .val (.int i1), .val (.int v1)] [(.ref a1)])) t → Steps p.tables e below (T424.setTop (mkF m 4 #[.val (.ref a1), .val (.int i1), .val (.int v1)] [.null])) t := by
    intro t kt
    show Steps p.tables e below (T424.setTop (mkF m 4 #[.val (.ref a1), .val (.int i1), .val (.int v1)] [.null])) _
    refine XS.ifnullYes X424.here hx rfl (pc0 := 4) (pc' := 29) rfl (hb hby d3_4) rfl (by decide) (by decide) ?_
    show Steps p.tables e below (T424.setTop (mkF m 29 #[.val (.ref a1), .val (.int i1), .val (.int v1)] [])) _
    refine XS.aloadN X424.here hx rfl (hb hby d3_29) rfl rfl ?_
    exact kt
  obtain ⟨T426, X426, e426, st426⟩ := getF X424 hx hZ hown (host := "") (Or.inl (hw _ (List.mem_of_getElem? (i := 24) rfl))) Via.refl e424 F420 (g := (mkF m 30 #[.val (.ref a1), .val (.int i1), .val (.int v1)] [(.ref a1)])) rfl rfl (hb hby d3_30)
  have S427 : ∀ t, Steps p.tables e below (T426.setTop (mkF m 58 #[.val (.ref a1), .val (.int i1), .val (.int v1)] [(.ref a1)])) t → Steps p.tables e below (T426.setTop (mkF m 33 #[.val (.ref a1), .val (.int i1), .val (.int v1)] [.null])) t := by
    intro t kt
    show Steps p.tables e below (T426.setTop (mkF m 33 #[.val (.ref a1), .val (.int i1), .val (.int v1)] [.null])) _
    refine XS.ifnullYes X426.here hx rfl (pc0 := 33) (pc' := 57) rfl (hb hby d3_33) rfl (by decide) (by decide) ?_
    show Steps p.tables e below (T426.setTop (mkF m 57 #[.val (.ref a1), .val (.int i1), .val (.int v1)] [])) _
    refine XS.aloadN X426.here hx rfl (hb hby d3_57) rfl rfl ?_
    exact kt
  obtain ⟨T428, X428, e428, st428⟩ := getF X426 hx hZ hown (host := "") (Or.inl (hw _ (List.mem_of_getElem? (i := 26) rfl))) Via.refl e426 F421 (g := (mkF m 58 #[.val (.ref a1), .val (.int i1), .val (.int v1)] [(.ref a1)])) rfl rfl (hb hby d3_58)
  have S429 : ∀ t, Steps p.tables e below (T428.setTop (mkF m 65 #[.val (.ref a1), .val (.int i1), .val (.int v1)] [(.ref a1)])) t → Steps p.tables e below (T428.setTop (mkF m 61 #[.val (.ref a1), .val (.int i1), .val (.int v1)] [(.ref t1)])) t := by
    intro t kt
    show Steps p.tables e below (T428.setTop (mkF m 61 #[.val (.ref a1), .val (.int i1), .val (.int v1)] [(.ref t1)])) _
    refine XS.ifnullNo X428.here hx rfl (hb hby d3_61) rfl ?_
    show Steps p.tables e below (T428.setTop (mkF m 64 #[.val (.ref a1), .val (.int i1), .val (.int v1)] [])) _
    refine XS.aloadN X428.here hx rfl (hb hby d3_64) rfl rfl ?_
    exact kt
  obtain ⟨T430, X430, e430, st430⟩ := getF X428 hx hZ hown (host := "") (Or.inl (hw _ (List.mem_of_getElem? (i := 26) rfl))) Via.refl e428 F421 (g := (mkF m 65 #[.val (.ref a1), .val (.int i1), .val (.int v1)] [(.ref a1)])) rfl rfl (hb hby d3_65)
  have S431 : ∀ t, Steps p.tables e below (T430.setTop (mkF m 70 #[.val (.ref a1), .val (.int i1), .val (.int v1)] [(.int v1), (.int i1), (.ref t1)])) t → Steps p.tables e below (T430.setTop (mkF m 68 #[.val (.ref a1), .val (.int i1), .val (.int v1)] [(.ref t1)])) t := by
    intro t kt
    show Steps p.tables e below (T430.setTop (mkF m 68 #[.val (.ref a1), .val (.int i1), .val (.int v1)] [(.ref t1)])) _
    refine XS.iloadN X430.here hx rfl (hb hby d3_68) rfl ?_
    show Steps p.tables e below (T430.setTop (mkF m 69 #[.val (.ref a1), .val (.int i1), .val (.int v1)] [(.int i1), (.ref t1)])) _
    refine XS.iloadN X430.here hx rfl (hb hby d3_69) rfl ?_
    exact kt
  obtain ⟨T432, h432, X432, e432, W432, V432, st432⟩ := ArF.stI X430 hx hZ e430 F422 (i := i) hi.1 hi.2 (g := (mkF m 70 #[.val (.ref a1), .val (.int i1), .val (.int v1)] [(.int v1), (.int i1), (.ref t1)])) rfl rfl (hb hby d3_70)
  have z433 : n0 ≤ h432.size := Nat.le_trans Z0 (Keep.of_wr W432).1
  have N434 := Fr.snoc X432 N0 g_t1
  have V432' := V432.congr (f' := (fun q => (.int (own_put vals i v1 q)))) (own_setV rfl)
  have S435 : ∀ t, Steps p.tables e below (T432.setTop (mkF m 85 #[.val (.ref a1), .val (.int i1), .val (.int v1)] [])) t → Steps p.tables e below (T432.setTop (mkF m 71 #[.val (.ref a1), .val (.int i1), .val (.int v1)] [])) t := by
    intro t kt
    show Steps p.tables e below (T432.setTop (mkF m 71 #[.val (.ref a1), .val (.int i1), .val (.int v1)] [])) _
    refine XS.goto X432.here hx rfl (pc0 := 71) (pc' := 85) rfl (hb hby d3_71) (by decide) (by decide) ?_
    exact kt
  have C436 : ∀ t, Steps p.tables e below (T432.setTop (mkF m 85 #[.val (.ref a1), .val (.int i1), .val (.int v1)] [])) t → Steps p.tables e below (s₁.setTop (mkF m 0 #[.val (.ref a1), .val (.int i1), .val (.int v1)] [])) t := (fun t k => (S423 t (st424 t (S425 t (st426 t (S427 t (st428 t (S429 t (st430 t (S431 t (st432 t (S435 t k))))))))))))
  obtain ⟨fs, hr, hrun, hended, hW, hsame⟩ := X432.leave (v := none) (fun _ => rfl)
  refine ⟨_, _, pre0 _ (C436 _ ?_), hrun, hended, _, _, rfl, ?_, ⟨_, rfl⟩, hW, hsame.mono (by decide) (by decide)⟩
  · exact X432.returnOut hx Bd.returns (hb hby d3_85) hr
  · show Q_rm_sI Z a1 i1 v1 i t1 vals h0 n0 _ T432.heap _
    rw [e432]
    have f437 := (F417.wr W432)
    have f438 := (F418.other W432 (Or.inl ne_a1_t1))
    have f439 := (F419.other W432 (Or.inl ne_a1_t1))
    have f440 := (F420.other W432 (Or.inl ne_a1_t1))
    have f441 := (F421.other W432 (Or.inl ne_a1_t1))
    exact ⟨rfl, N434, z433, (Or.inr (Or.inr ⟨t1, ⟨g_a1, g_t1, ne_a1_t1, f437, f438⟩, f439, f440, f441, V432'⟩))⟩
def Q_rm_set (Z : State) (a1 : Addr) (i1 : Int32) (v1 : Int32) (i : Nat) (vals : Nat → Int32) (h0 : Heap) (n0 : Nat) (v : Option Value) (h : Heap) (L : List Loc) : Prop := v = none ∧ Fr n0 L ∧ n0 ≤ h.size ∧ own_NI Z h n0 a1 (own_put vals i v1)
theorem rm_set (l : Launch) (Z : State) (a0 : Array Value) (hw : ∀ d ∈ tables_1, d.before a0 Z = true) (ws : List Jvm.Cond) (a1 : Addr) (i1 : Int32) (v1 : Int32) (i : Nat) (vals : Nat → Int32) (h0 : Heap) (n0 : Nat) (Z0 : n0 ≤ h0.size) (H : own_NI Z h0 n0 a1 vals) (hi : i1.toInt = (i : Int) ∧ i < 4) :
    MetFree l (⟨"com/example/joinery/joinery/NarrowInts", "set", "(II)V"⟩ : MethodName) (head1 (Jvm.Cond.code (⟨"com/example/joinery/joinery/NarrowInts", "set", "(II)V"⟩ : MethodName) prog_31_method_4_code 3 none :: ws) ({ frames := 2, cells := 2, slots := 8, locals := 64 } : Room)) (fun a U => a = #[(.ref a1), (.int i1), (.int v1)] ∧ Z.Warmed39 U.vm ∧ U.heap = h0) (fun _ _ _ _ _ => True) (fun _ U o U' => ∃ v L, o = .returned v ∧ Q_rm_set Z a1 i1 v1 i vals h0 n0 v U'.heap L ∧ FrameEnd U o U' L ({ frames := 2, cells := 2, slots := 8, locals := 64 } : Room).cells ({ frames := 2, cells := 2, slots := 8, locals := 64 } : Room).slots) := by
  rcases H with ⟨t, ⟨g, gt, ne, E, K⟩, f1, f2, f3, A, hrg⟩ | ⟨t, ⟨g, gt, ne, E, K⟩, f1, f2, f3, A, hrg⟩ | ⟨t, ⟨g, gt, ne, E, K⟩, f1, f2, f3, A⟩
  · exact rm_sB l Z a0 hw ws a1 i1 v1 i t vals h0 n0 Z0 E K f1 f2 f3 A g gt ne hi hrg
  · exact rm_sCw l Z a0 hw ws a1 i1 v1 i t vals h0 n0 Z0 E K f1 f2 f3 A g gt ne hi hrg
  · exact rm_sIw l Z a0 hw ws a1 i1 v1 i t vals h0 n0 Z0 E K f1 f2 f3 A g gt ne hi
theorem ef_rm1 (m : MethodId) (x0 : Addr) (x1 : Int32) : entryFrame m #[(.ref x0), (.int x1)] 2 = mkF m 0 #[.val (.ref x0), .val (.int x1)] [] := by first | (simp [entryFrame, mkF, argsToLocals, Value.category]; done) | rfl
def Q_rm1 (Z : State) (a1 : Addr) (h0 : Heap) (n0 : Nat) (v : Option Value) (h : Heap) (L : List Loc) : Prop := v = none ∧ Fr n0 L ∧ n0 ≤ h.size ∧ own_NI Z h n0 a1 (fun _ => (0 : Int32))
set_option maxRecDepth 65536 in
set_option maxHeartbeats 40000000 in
theorem rm1 (l : Launch) (Z : State) (a0 : Array Value) (hw : ∀ d ∈ tables_1, d.before a0 Z = true) (ws : List Jvm.Cond) (a1 : Addr) (h0 : Heap) (n0 : Nat) (Z0 : n0 ≤ h0.size) (F615 : Exa Z h0 a1 "com/example/joinery/joinery/NarrowInts") (F616 : Fld Z h0 a1 "com/example/joinery/joinery/NarrowInts" "capacity" "I" (.int (0 : Int32))) (F617 : Fld Z h0 a1 "com/example/joinery/joinery/NarrowInts" "bytes" "[B" .null) (F618 : Fld Z h0 a1 "com/example/joinery/joinery/NarrowInts" "chars" "[C" .null) (F619 : Fld Z h0 a1 "com/example/joinery/joinery/NarrowInts" "ints" "[I" .null) (g_a1 : n0 ≤ a1) :
    MetFree l (⟨"com/example/joinery/joinery/NarrowInts", "<init>", "(I)V"⟩ : MethodName) (head1 (Jvm.Cond.code (⟨"com/example/joinery/joinery/NarrowInts", "<init>", "(I)V"⟩ : MethodName) prog_31_method_1_code 2 none :: ws) ({ frames := 1, cells := 1, slots := 4, locals := 12 } : Room)) (fun a U => a = #[(.ref a1), (.int (4 : Int32))] ∧ Z.Warmed39 U.vm ∧ U.heap = h0) (fun _ _ _ _ _ => True) (fun _ U o U' => ∃ v L, o = .returned v ∧ Q_rm1 Z a1 h0 n0 v U'.heap L ∧ FrameEnd U o U' L ({ frames := 1, cells := 1, slots := 4, locals := 12 } : Room).cells ({ frames := 1, cells := 1, slots := 4, locals := 12 } : Room).slots) := by
  refine MetFree.of_bodySF (plainFor_of_name pn_0) hisR ?_
  intro p e s m args below meth c s₁ Bd hml0 hP hK
  obtain ⟨rfl, hZ, hh⟩ := hP
  have hx := Bd.exec
  have hby := Bd.bytes
  have hml : c.maxLocals = 2 := hml0
  have hown : s.vm.findClass "com/example/joinery/joinery/NarrowInts" = some m.cls := findClass_of_methodNamed Bd.named
  have hnm := (name_of_methodNamed Bd.named Bd.method).1
  have X0 : Stand p l e ({ frames := 1, cells := 1, slots := 4, locals := 12 } : Room) s m #[(.ref a1), (.int (4 : Int32))] below meth c s₁ [] 0 0 := Stand.of_body Bd
  have e0 : s₁.heap = h0 := by rw [← hh, Bd.state]; rfl
  have N0 := Fr.nil n0
  have pre0 : ∀ t, Steps p.tables e below (s₁.setTop (mkF m 0 #[.val (.ref a1), .val (.int (4 : Int32))] [])) t → Steps p.tables e below (s₁.setTop (entryFrame m #[(.ref a1), (.int (4 : Int32))] 2)) t := fun t k => castTop (ef_rm1 m a1 (4 : Int32)) k
  have S620 : ∀ t, Steps p.tables e below (s₁.setTop (mkF m 1 #[.val (.ref a1), .val (.int (4 : Int32))] [(.ref a1)])) t → Steps p.tables e below (s₁.setTop (mkF m 0 #[.val (.ref a1), .val (.int (4 : Int32))] [])) t := by
    intro t kt
    show Steps p.tables e below (s₁.setTop (mkF m 0 #[.val (.ref a1), .val (.int (4 : Int32))] [])) _
    refine XS.aloadN X0.here hx rfl (hb hby d1_0) rfl rfl ?_
    exact kt
  obtain ⟨T621, X621, e621, st621⟩ := initO X0 hx hZ hown (hw _ (List.mem_of_getElem? (i := 6) rfl)) (hw _ (List.mem_of_getElem? (i := 7) rfl)) (hw _ (List.mem_of_getElem? (i := 8) rfl)) e0 (g := (mkF m 1 #[.val (.ref a1), .val (.int (4 : Int32))] [(.ref a1)])) rfl (by rw [hml]; rfl) rfl (hb hby d1_1) (by decide) (W := 0) (by show 2 * 0 + _ ≤ _; exact Nat.le_of_eq rfl) (by decide)
  have S622 : ∀ t, Steps p.tables e below (T621.setTop (mkF m 6 #[.val (.ref a1), .val (.int (4 : Int32))] [(.int (4 : Int32)), (.ref a1)])) t → Steps p.tables e below (T621.setTop (mkF m 4 #[.val (.ref a1), .val (.int (4 : Int32))] [])) t := by
    intro t kt
    show Steps p.tables e below (T621.setTop (mkF m 4 #[.val (.ref a1), .val (.int (4 : Int32))] [])) _
    refine XS.aloadN X621.here hx rfl (hb hby d1_4) rfl rfl ?_
    show Steps p.tables e below (T621.setTop (mkF m 5 #[.val (.ref a1), .val (.int (4 : Int32))] [(.ref a1)])) _
    refine XS.iloadN X621.here hx rfl (hb hby d1_5) rfl ?_
    exact kt
  obtain ⟨T623, h623, X623, e623, W623, st623⟩ := putF X621 hx hZ hown (host := "") (Or.inl (hw _ (List.mem_of_getElem? (i := 9) rfl))) Via.refl e621 F616 F615 (Or.inl (hw _ (List.mem_of_getElem? (i := 10) rfl))) (hw _ (List.mem_of_getElem? (i := 1) rfl)) (ty := .int) (by decide) rfl rfl (g := (mkF m 6 #[.val (.ref a1), .val (.int (4 : Int32))] [(.int (4 : Int32)), (.ref a1)])) rfl rfl (hb hby d1_6)
  have z624 : n0 ≤ h623.size := Nat.le_trans Z0 (Keep.of_wr W623).1
  have N625 := Fr.snoc X623 N0 g_a1
  have Fw623 := F616.same W623
  have S626 : ∀ t, Steps p.tables e below (T623.setTop (mkF m 11 #[.val (.ref a1), .val (.int (4 : Int32))] [(.int (4 : Int32)), (.ref a1)])) t → Steps p.tables e below (T623.setTop (mkF m 9 #[.val (.ref a1), .val (.int (4 : Int32))] [])) t := by
    intro t kt
    show Steps p.tables e below (T623.setTop (mkF m 9 #[.val (.ref a1), .val (.int (4 : Int32))] [])) _
    refine XS.aloadN X623.here hx rfl (hb hby d1_9) rfl rfl ?_
    show Steps p.tables e below (T623.setTop (mkF m 10 #[.val (.ref a1), .val (.int (4 : Int32))] [(.ref a1)])) _
    refine XS.iloadN X623.here hx rfl (hb hby d1_10) rfl ?_
    exact kt
  obtain ⟨T627, h627, k627, X627, e627, E627, A627, st627⟩ := newP X623 hx hZ (hw _ (List.mem_of_getElem? (i := 11) rfl)) e623 (g := (mkF m 11 #[.val (.ref a1), .val (.int (4 : Int32))] [(.int (4 : Int32)), (.ref a1)])) rfl (hb hby d1_11) rfl (by decide) (cap := 4) (by decide) (by decide) (by decide) (by decide)
  obtain ⟨b627, g627⟩ : ∃ z, z = h623.size := ⟨_, rfl⟩
  rw [← g627] at A627 st627
  have g_b627 : n0 ≤ b627 := Nat.le_trans z624 (Nat.le_of_eq g627.symm)
  have K628 := ((Keep.refl h0 [a1]).wr W623 (Or.inl (List.mem_of_getElem? (i := 0) rfl)))
  have sz_b627 : h0.size ≤ b627 := Nat.le_trans K628.1 (Nat.le_of_eq g627.symm)
  have f629 := (F615.wr W623)
  have ne_a1_b627 : a1 ≠ b627 := Nat.ne_of_lt (Nat.lt_of_lt_of_le f629.lt (Nat.le_of_eq g627.symm))
  have z630 : n0 ≤ h627.size := Nat.le_trans z624 E627.1
  have V627 : ArF Z h627 b627 .byte 4 (fun _ => (.int (0 : Int32))) := ArF.new A627 (by decide) rfl
  have f631 := ((F617.other W623 (Or.inr (slot_ne (Or.inl (hw _ (List.mem_of_getElem? (i := 13) rfl))) (Or.inl (hw _ (List.mem_of_getElem? (i := 10) rfl))) (by decide) (t := (.array .byte)) (t' := .int) (by decide) (by decide)))).ext E627)
  have f632 := (f629.ext E627)
  obtain ⟨T633, h633, X633, e633, W633, st633⟩ := putF X627 hx hZ hown (host := "") (Or.inl (hw _ (List.mem_of_getElem? (i := 12) rfl))) Via.refl e627 f631 f632 (Or.inl (hw _ (List.mem_of_getElem? (i := 13) rfl))) (hw _ (List.mem_of_getElem? (i := 1) rfl)) (ty := (.array .byte)) (by decide) rfl rfl (g := (mkF m 13 #[.val (.ref a1), .val (.int (4 : Int32))] [(.ref b627), (.ref a1)])) rfl rfl (hb hby d1_13)
  have z634 : n0 ≤ h633.size := Nat.le_trans z630 (Keep.of_wr W633).1
  have N635 := Fr.snoc X633 N625 g_a1
  have Fw633 := f631.same W633
  have C636 : ∀ t, Steps p.tables e below (T633.setTop (mkF m 16 #[.val (.ref a1), .val (.int (4 : Int32))] [])) t → Steps p.tables e below (s₁.setTop (mkF m 0 #[.val (.ref a1), .val (.int (4 : Int32))] [])) t := (fun t k => (S620 t (st621 t (S622 t (st623 t (S626 t (st627 t (st633 t k))))))))
  obtain ⟨fs, hr, hrun, hended, hW, hsame⟩ := X633.leave (v := none) (fun _ => rfl)
  refine ⟨_, _, pre0 _ (C636 _ ?_), hrun, hended, _, _, rfl, ?_, ⟨_, rfl⟩, hW, hsame.mono (by decide) (by decide)⟩
  · exact X633.returnOut hx Bd.returns (hb hby d1_16) hr
  · show Q_rm1 Z a1 h0 n0 _ T633.heap _
    rw [e633]
    have f637 := (V627.other W633 (Ne.symm ne_a1_b627))
    have V638 := f637.congr (f' := (fun q => (.int (own_nb ((fun _ => (0 : Int32)) q))))) (fun q hq => by rfl)
    have f639 := (f632.wr W633)
    have f640 := ((Fw623.ext E627).other W633 (Or.inr (slot_ne (Or.inl (hw _ (List.mem_of_getElem? (i := 10) rfl))) (Or.inl (hw _ (List.mem_of_getElem? (i := 13) rfl))) (by decide) (t := .int) (t' := (.array .byte)) (by decide) (by decide))))
    have f641 := (((F618.other W623 (Or.inr (slot_ne (Or.inl (hw _ (List.mem_of_getElem? (i := 25) rfl))) (Or.inl (hw _ (List.mem_of_getElem? (i := 10) rfl))) (by decide) (t := (.array .char)) (t' := .int) (by decide) (by decide)))).ext E627).other W633 (Or.inr (slot_ne (Or.inl (hw _ (List.mem_of_getElem? (i := 25) rfl))) (Or.inl (hw _ (List.mem_of_getElem? (i := 13) rfl))) (by decide) (t := (.array .char)) (t' := (.array .byte)) (by decide) (by decide))))
    have f642 := (((F619.other W623 (Or.inr (slot_ne (Or.inl (hw _ (List.mem_of_getElem? (i := 27) rfl))) (Or.inl (hw _ (List.mem_of_getElem? (i := 10) rfl))) (by decide) (t := (.array .int)) (t' := .int) (by decide) (by decide)))).ext E627).other W633 (Or.inr (slot_ne (Or.inl (hw _ (List.mem_of_getElem? (i := 27) rfl))) (Or.inl (hw _ (List.mem_of_getElem? (i := 13) rfl))) (by decide) (t := (.array .int)) (t' := (.array .byte)) (by decide) (by decide))))
    exact ⟨rfl, N635, z634, Or.inl ⟨b627, ⟨g_a1, g_b627, ne_a1_b627, f639, f640⟩, Fw633, f641, f642, V638, fun _ _ => (by unfold own_byte; decide : own_byte (0 : Int32))⟩⟩

theorem own_NI_exa {Z : State} {h : Heap} {n0 : Nat} {a : Addr} {vals : Nat → Int32} (H : own_NI Z h n0 a vals) : Exa Z h a "com/example/joinery/joinery/NarrowInts" := by
  rcases H with ⟨t, ⟨g, gt, ne, E, K⟩, -⟩ | ⟨t, ⟨g, gt, ne, E, K⟩, -⟩ | ⟨t, ⟨g, gt, ne, E, K⟩, -⟩ <;> exact E
theorem own_put_at (vals : Nat → Int32) (i : Nat) (v : Int32) : own_put vals i v i = v := by unfold own_put; rw [if_pos rfl]
theorem ef_rm0 (m : MethodId) (x0 : Int32) (x1 : Int32) (x2 : Int32) (x3 : Int32) : entryFrame m #[(.int x0), (.int x1), (.int x2), (.int x3)] maxLocals = mkF m 0 #[.val (.int x0), .val (.int x1), .val (.int x2), .val (.int x3), .unset, .unset, .unset, .unset, .unset, .unset] [] := by first | (simp [entryFrame, mkF, argsToLocals, Value.category, maxLocals]; done) | rfl
def Q_rm0 (Z : State) (a1 : Int32) (b1 : Int32) (c1 : Int32) (d1 : Int32) (h0 : Heap) (n0 : Nat) (v : Option Value) (h : Heap) (L : List Loc) : Prop := v = some (.int 1) ∧ Fr n0 L
set_option maxRecDepth 65536 in
set_option maxHeartbeats 40000000 in
theorem rm0 (l : Launch) (Z : State) (a0 : Array Value) (hw : ∀ d ∈ tables_1, d.before a0 Z = true) (ws : List Jvm.Cond) (a1 : Int32) (b1 : Int32) (c1 : Int32) (d1 : Int32) (h0 : Heap) (n0 : Nat) (Z0 : n0 ≤ h0.size)  :
    MetFree l x (head1 (Jvm.Cond.code x code maxLocals ret :: ws) room_1) (fun a U => a = #[(.int a1), (.int b1), (.int c1), (.int d1)] ∧ Z.Warmed39 U.vm ∧ U.heap = h0) (fun _ _ _ _ _ => True) (fun _ U o U' => ∃ v L, o = .returned v ∧ Q_rm0 Z a1 b1 c1 d1 h0 n0 v U'.heap L ∧ FrameEnd U o U' L room_1.cells room_1.slots) := by
  refine MetFree.of_bodySF (plainFor_of_name pn_1) hisR ?_
  intro p e s m args below meth c s₁ Bd hml0 hP hK
  obtain ⟨rfl, hZ, hh⟩ := hP
  have hx := Bd.exec
  have hby := Bd.bytes
  have hml : c.maxLocals = 10 := hml0
  have hown : s.vm.findClass "com/example/joinery/joinery/NarrowIntsGetPinLaw" = some m.cls := findClass_of_methodNamed Bd.named
  have hnm := (name_of_methodNamed Bd.named Bd.method).1
  have X0 : Stand p l e room_1 s m #[(.int a1), (.int b1), (.int c1), (.int d1)] below meth c s₁ [] 0 0 := Stand.of_body Bd
  have e0 : s₁.heap = h0 := by rw [← hh, Bd.state]; rfl
  have N0 := Fr.nil n0
  have pre0 : ∀ t, Steps p.tables e below (s₁.setTop (mkF m 0 #[.val (.int a1), .val (.int b1), .val (.int c1), .val (.int d1), .unset, .unset, .unset, .unset, .unset, .unset] [])) t → Steps p.tables e below (s₁.setTop (entryFrame m #[(.int a1), (.int b1), (.int c1), (.int d1)] maxLocals)) t := fun t k => castTop (ef_rm0 m a1 b1 c1 d1) k
  obtain ⟨T643, h643, X643, e643, E643, A643, D643, -, st643⟩ := newO X0 hx hZ hown (hw _ (List.mem_of_getElem? (i := 0) rfl)) (hw _ (List.mem_of_getElem? (i := 1) rfl)) (hw _ (List.mem_of_getElem? (i := 2) rfl)) e0 (g := (mkF m 0 #[.val (.int a1), .val (.int b1), .val (.int c1), .val (.int d1), .unset, .unset, .unset, .unset, .unset, .unset] [])) rfl (hb hby at_0) (by decide) (by decide)
  obtain ⟨b643, g643⟩ : ∃ z, z = h0.size := ⟨_, rfl⟩
  rw [← g643] at A643 D643 st643
  have g_b643 : n0 ≤ b643 := Nat.le_trans Z0 (Nat.le_of_eq g643.symm)
  have K644 := (Keep.refl h0 [])
  have sz_b643 : h0.size ≤ b643 := Nat.le_trans K644.1 (Nat.le_of_eq g643.symm)
  have z645 : n0 ≤ h643.size := Nat.le_trans Z0 E643.1
  have F646 : Fld Z h643 b643 "com/example/joinery/joinery/NarrowInts" "capacity" "I" (.int (0 : Int32)) := D643 (Or.inl (hw _ (List.mem_of_getElem? (i := 10) rfl))) (ty := .int) (by decide)
  have F647 : Fld Z h643 b643 "com/example/joinery/joinery/NarrowInts" "bytes" "[B" .null := D643 (Or.inl (hw _ (List.mem_of_getElem? (i := 13) rfl))) (ty := (.array .byte)) (by decide)
  have F648 : Fld Z h643 b643 "com/example/joinery/joinery/NarrowInts" "chars" "[C" .null := D643 (Or.inl (hw _ (List.mem_of_getElem? (i := 25) rfl))) (ty := (.array .char)) (by decide)
  have F649 : Fld Z h643 b643 "com/example/joinery/joinery/NarrowInts" "ints" "[I" .null := D643 (Or.inl (hw _ (List.mem_of_getElem? (i := 27) rfl))) (ty := (.array .int)) (by decide)
  have S650 : ∀ t, Steps p.tables e below (T643.setTop (mkF m 5 #[.val (.int a1), .val (.int b1), .val (.int c1), .val (.int d1), .unset, .unset, .unset, .unset, .unset, .unset] [(.int (4 : Int32)), (.ref b643), (.ref b643)])) t → Steps p.tables e below (T643.setTop (mkF m 3 #[.val (.int a1), .val (.int b1), .val (.int c1), .val (.int d1), .unset, .unset, .unset, .unset, .unset, .unset] [(.ref b643)])) t := by
    intro t kt
    show Steps p.tables e below (T643.setTop (mkF m 3 #[.val (.int a1), .val (.int b1), .val (.int c1), .val (.int d1), .unset, .unset, .unset, .unset, .unset, .unset] [(.ref b643)])) _
    refine XS.dup X643.here hx rfl (hb hby at_3) rfl rfl ?_
    show Steps p.tables e below (T643.setTop (mkF m 4 #[.val (.int a1), .val (.int b1), .val (.int c1), .val (.int d1), .unset, .unset, .unset, .unset, .unset, .unset] [(.ref b643), (.ref b643)])) _
    refine XS.iconst X643.here hx rfl (hb hby at_4) ?_
    exact kt
  obtain ⟨_, _, ⟨T651, L651, k651, n651⟩, -, X651, ⟨Lc651, hQ651, l651, y651, z651⟩, st651⟩ := X643.specialBack hx (y := (⟨"com/example/joinery/joinery/NarrowInts", "<init>", "(I)V"⟩ : MethodName)) rfl hown (mvT hZ (hw _ (List.mem_of_getElem? (i := 3) rfl))) (mvT hZ (hw _ (List.mem_of_getElem? (i := 4) rfl))) (mvT hZ (hw _ (List.mem_of_getElem? (i := 5) rfl))) (by decide) (backOf (W := 1) (rm1 l Z a0 hw [] b643 h643 n0 z645 A643 F646 F647 F648 F649 g_b643) hZ (hw _ (List.mem_of_getElem? (i := 5) rfl)) (hw _ (List.mem_of_getElem? (i := 2) rfl)) (by decide) (by decide)) (g := (mkF m 5 #[.val (.int a1), .val (.int b1), .val (.int c1), .val (.int d1), .unset, .unset, .unset, .unset, .unset, .unset] [(.int (4 : Int32)), (.ref b643), (.ref b643)])) rfl (by rw [hml]; rfl) (Steps.refl _) (a := b643) (argsL := [(.int (4 : Int32))]) (rest := [(.ref b643)]) (lenOf pd_0 rfl) rfl (by show 2 * 0 + _ ≤ _; exact Nat.le_of_eq rfl) (hb hby at_5) (fun _ _ => ⟨rfl, e643, (by decide : 1 + 1 ≤ _), (by decide : 4 + 4 ≤ _)⟩)
  dsimp only [Pt.U, Pt.locs, Pt.cells, Pt.slots] at X651 l651 y651 z651 st651 hQ651
  subst l651 y651 z651
  obtain ⟨h651, e651⟩ : ∃ z, T651.heap = z := ⟨_, rfl⟩
  rw [e651] at hQ651
  obtain ⟨rfl, N651q, z652, hN0⟩ := hQ651
  have N651 := Fr.app N0 N651q
  have E653 := own_NI_exa hN0
  have S655 : ∀ t, Steps p.tables e below (T651.setTop (mkF m 14 #[.val (.int a1), .val (.int b1), .val (.int c1), .val (.int d1), .val (.ref b643), .unset, .unset, .unset, .unset, .unset] [(.int a1), (.int (0 : Int32)), (.ref b643)])) t → Steps p.tables e below (T651.setTop (mkF m 8 #[.val (.int a1), .val (.int b1), .val (.int c1), .val (.int d1), .unset, .unset, .unset, .unset, .unset, .unset] [(.ref b643)])) t := by
    intro t kt
    show Steps p.tables e below (T651.setTop (mkF m 8 #[.val (.int a1), .val (.int b1), .val (.int c1), .val (.int d1), .unset, .unset, .unset, .unset, .unset, .unset] [(.ref b643)])) _
    refine XS.astore X651.here hx rfl (hb hby at_8) rfl rfl (l' := #[.val (.int a1), .val (.int b1), .val (.int c1), .val (.int d1), .val (.ref b643), .unset, .unset, .unset, .unset, .unset]) rfl ?_
    show Steps p.tables e below (T651.setTop (mkF m 10 #[.val (.int a1), .val (.int b1), .val (.int c1), .val (.int d1), .val (.ref b643), .unset, .unset, .unset, .unset, .unset] [])) _
    refine XS.aload X651.here hx rfl (hb hby at_10) rfl rfl ?_
    show Steps p.tables e below (T651.setTop (mkF m 12 #[.val (.int a1), .val (.int b1), .val (.int c1), .val (.int d1), .val (.ref b643), .unset, .unset, .unset, .unset, .unset] [(.ref b643)])) _
    refine XS.iconst X651.here hx rfl (hb hby at_12) ?_
    show Steps p.tables e below (T651.setTop (mkF m 13 #[.val (.int a1), .val (.int b1), .val (.int c1), .val (.int d1), .val (.ref b643), .unset, .unset, .unset, .unset, .unset] [(.int (0 : Int32)), (.ref b643)])) _
    refine XS.iloadN X651.here hx rfl (hb hby at_13) rfl ?_
    exact kt
  obtain ⟨cq656, kq656, q656a, q656b, q656c⟩ := isOf hZ e651 E653
  obtain ⟨_, _, ⟨T656, L656, k656, n656⟩, -, X656, ⟨Lc656, hQ656, l656, y656, z656⟩, st656⟩ := X651.virtualBack hx (y := (⟨"com/example/joinery/joinery/NarrowInts", "set", "(II)V"⟩ : MethodName)) (z := (⟨"com/example/joinery/joinery/NarrowInts", "set", "(II)V"⟩ : MethodName)) hown (mvT hZ (hw _ (List.mem_of_getElem? (i := 14) rfl))) (mvT hZ (hw _ (List.mem_of_getElem? (i := 15) rfl))) (notFace_of_selects (args := #[]) (mvT hZ (hw _ (List.mem_of_getElem? (i := 17) rfl)))) (mvT hZ (hw _ (List.mem_of_getElem? (i := 17) rfl))) (mvT hZ (hw _ (List.mem_of_getElem? (i := 16) rfl))) (by decide) (backOf (W := 0) (rm_set l Z a0 hw [] b643 (0 : Int32) a1 0 (fun _ => (0 : Int32)) h651 n0 z652 hN0 (show (0 : Int32).toInt = ((0 : Nat) : Int) ∧ 0 < 4 from ⟨by decide, by decide⟩)) hZ (hw _ (List.mem_of_getElem? (i := 18) rfl)) (hw _ (List.mem_of_getElem? (i := 2) rfl)) (by decide) (by decide)) q656a q656c (g := (mkF m 14 #[.val (.int a1), .val (.int b1), .val (.int c1), .val (.int d1), .val (.ref b643), .unset, .unset, .unset, .unset, .unset] [(.int a1), (.int (0 : Int32)), (.ref b643)])) rfl (by rw [hml]; rfl) (Steps.refl _) (argsL := [(.int (0 : Int32)), (.int a1)]) (rest := []) (lenOf pd_1 rfl) rfl (by show 2 * 0 + _ ≤ _; exact Nat.le_of_eq rfl) (hb hby at_14) (fun _ _ => ⟨rfl, e651, (by decide : 2 + 2 ≤ _), (by decide : 8 + 8 ≤ _)⟩)
  dsimp only [Pt.U, Pt.locs, Pt.cells, Pt.slots] at X656 l656 y656 z656 st656 hQ656
  subst l656 y656 z656
  obtain ⟨h656, e656⟩ : ∃ z, T656.heap = z := ⟨_, rfl⟩
  rw [e656] at hQ656
  obtain ⟨rfl, N656q, z657, hN654⟩ := hQ656
  have N656 := Fr.app N651 N656q
  have E658 := own_NI_exa hN654
  have S660 : ∀ t, Steps p.tables e below (T656.setTop (mkF m 21 #[.val (.int a1), .val (.int b1), .val (.int c1), .val (.int d1), .val (.ref b643), .unset, .unset, .unset, .unset, .unset] [(.int b1), (.int (1 : Int32)), (.ref b643)])) t → Steps p.tables e below (T656.setTop (mkF m 17 #[.val (.int a1), .val (.int b1), .val (.int c1), .val (.int d1), .val (.ref b643), .unset, .unset, .unset, .unset, .unset] [])) t := by
    intro t kt
    show Steps p.tables e below (T656.setTop (mkF m 17 #[.val (.int a1), .val (.int b1), .val (.int c1), .val (.int d1), .val (.ref b643), .unset, .unset, .unset, .unset, .unset] [])) _
    refine XS.aload X656.here hx rfl (hb hby at_17) rfl rfl ?_
    show Steps p.tables e below (T656.setTop (mkF m 19 #[.val (.int a1), .val (.int b1), .val (.int c1), .val (.int d1), .val (.ref b643), .unset, .unset, .unset, .unset, .unset] [(.ref b643)])) _
    refine XS.iconst X656.here hx rfl (hb hby at_19) ?_
    show Steps p.tables e below (T656.setTop (mkF m 20 #[.val (.int a1), .val (.int b1), .val (.int c1), .val (.int d1), .val (.ref b643), .unset, .unset, .unset, .unset, .unset] [(.int (1 : Int32)), (.ref b643)])) _
    refine XS.iloadN X656.here hx rfl (hb hby at_20) rfl ?_
    exact kt
  obtain ⟨cq661, kq661, q661a, q661b, q661c⟩ := isOf hZ e656 E658
  obtain ⟨_, _, ⟨T661, L661, k661, n661⟩, -, X661, ⟨Lc661, hQ661, l661, y661, z661⟩, st661⟩ := X656.virtualBack hx (y := (⟨"com/example/joinery/joinery/NarrowInts", "set", "(II)V"⟩ : MethodName)) (z := (⟨"com/example/joinery/joinery/NarrowInts", "set", "(II)V"⟩ : MethodName)) hown (mvT hZ (hw _ (List.mem_of_getElem? (i := 14) rfl))) (mvT hZ (hw _ (List.mem_of_getElem? (i := 15) rfl))) (notFace_of_selects (args := #[]) (mvT hZ (hw _ (List.mem_of_getElem? (i := 17) rfl)))) (mvT hZ (hw _ (List.mem_of_getElem? (i := 17) rfl))) (mvT hZ (hw _ (List.mem_of_getElem? (i := 16) rfl))) (by decide) (backOf (W := 0) (rm_set l Z a0 hw [] b643 (1 : Int32) b1 1 (own_put (fun _ => (0 : Int32)) 0 a1) h656 n0 z657 hN654 (show (1 : Int32).toInt = ((1 : Nat) : Int) ∧ 1 < 4 from ⟨by decide, by decide⟩)) hZ (hw _ (List.mem_of_getElem? (i := 18) rfl)) (hw _ (List.mem_of_getElem? (i := 2) rfl)) (by decide) (by decide)) q661a q661c (g := (mkF m 21 #[.val (.int a1), .val (.int b1), .val (.int c1), .val (.int d1), .val (.ref b643), .unset, .unset, .unset, .unset, .unset] [(.int b1), (.int (1 : Int32)), (.ref b643)])) rfl (by rw [hml]; rfl) (Steps.refl _) (argsL := [(.int (1 : Int32)), (.int b1)]) (rest := []) (lenOf pd_1 rfl) rfl (by show 2 * 0 + _ ≤ _; exact Nat.le_of_eq rfl) (hb hby at_21) (fun _ _ => ⟨rfl, e656, (by decide : 4 + 2 ≤ _), (by decide : 16 + 8 ≤ _)⟩)
  dsimp only [Pt.U, Pt.locs, Pt.cells, Pt.slots] at X661 l661 y661 z661 st661 hQ661
  subst l661 y661 z661
  obtain ⟨h661, e661⟩ : ∃ z, T661.heap = z := ⟨_, rfl⟩
  rw [e661] at hQ661
  obtain ⟨rfl, N661q, z662, hN659⟩ := hQ661
  have N661 := Fr.app N656 N661q
  have E663 := own_NI_exa hN659
  have S664 : ∀ t, Steps p.tables e below (T661.setTop (mkF m 27 #[.val (.int a1), .val (.int b1), .val (.int c1), .val (.int d1), .val (.ref b643), .unset, .unset, .unset, .unset, .unset] [(.int (0 : Int32)), (.ref b643)])) t → Steps p.tables e below (T661.setTop (mkF m 24 #[.val (.int a1), .val (.int b1), .val (.int c1), .val (.int d1), .val (.ref b643), .unset, .unset, .unset, .unset, .unset] [])) t := by
    intro t kt
    show Steps p.tables e below (T661.setTop (mkF m 24 #[.val (.int a1), .val (.int b1), .val (.int c1), .val (.int d1), .val (.ref b643), .unset, .unset, .unset, .unset, .unset] [])) _
    refine XS.aload X661.here hx rfl (hb hby at_24) rfl rfl ?_
    show Steps p.tables e below (T661.setTop (mkF m 26 #[.val (.int a1), .val (.int b1), .val (.int c1), .val (.int d1), .val (.ref b643), .unset, .unset, .unset, .unset, .unset] [(.ref b643)])) _
    refine XS.iconst X661.here hx rfl (hb hby at_26) ?_
    exact kt
  obtain ⟨cq665, kq665, q665a, q665b, q665c⟩ := isOf hZ e661 E663
  obtain ⟨_, _, ⟨T665, L665, k665, n665⟩, -, X665, ⟨Lc665, hQ665, l665, y665, z665⟩, st665⟩ := X661.virtualBack hx (y := (⟨"com/example/joinery/joinery/NarrowInts", "get", "(I)I"⟩ : MethodName)) (z := (⟨"com/example/joinery/joinery/NarrowInts", "get", "(I)I"⟩ : MethodName)) hown (mvT hZ (hw _ (List.mem_of_getElem? (i := 19) rfl))) (mvT hZ (hw _ (List.mem_of_getElem? (i := 20) rfl))) (notFace_of_selects (args := #[]) (mvT hZ (hw _ (List.mem_of_getElem? (i := 22) rfl)))) (mvT hZ (hw _ (List.mem_of_getElem? (i := 22) rfl))) (mvT hZ (hw _ (List.mem_of_getElem? (i := 21) rfl))) (by decide) (backOf (W := 0) (rm_get l Z a0 hw [] b643 (0 : Int32) 0 (own_put (own_put (fun _ => (0 : Int32)) 0 a1) 1 b1) h661 n0 z662 hN659 (show (0 : Int32).toInt = ((0 : Nat) : Int) ∧ 0 < 4 from ⟨by decide, by decide⟩)) hZ (hw _ (List.mem_of_getElem? (i := 23) rfl)) (hw _ (List.mem_of_getElem? (i := 2) rfl)) (by decide) (by decide)) q665a q665c (g := (mkF m 27 #[.val (.int a1), .val (.int b1), .val (.int c1), .val (.int d1), .val (.ref b643), .unset, .unset, .unset, .unset, .unset] [(.int (0 : Int32)), (.ref b643)])) rfl (by rw [hml]; rfl) (Steps.refl _) (argsL := [(.int (0 : Int32))]) (rest := []) (lenOf pd_2 rfl) rfl (by show 2 * 0 + _ ≤ _; exact Nat.le_of_eq rfl) (hb hby at_27) (fun _ _ => ⟨rfl, e661, (by decide : 6 + 0 ≤ _), (by decide : 24 + 0 ≤ _)⟩)
  dsimp only [Pt.U, Pt.locs, Pt.cells, Pt.slots] at X665 l665 y665 z665 st665 hQ665
  subst l665 y665 z665
  obtain ⟨rfl, N665q, e665⟩ := hQ665
  have N665 := Fr.app N661 N665q
  have S666 : ∀ t, Steps p.tables e below (T665.setTop (mkF m 30 #[.val (.int a1), .val (.int b1), .val (.int c1), .val (.int d1), .val (.ref b643), .unset, .unset, .unset, .unset, .unset] [(.int a1)])) t → Steps p.tables e below (T665.setTop (mkF m 30 #[.val (.int a1), .val (.int b1), .val (.int c1), .val (.int d1), .val (.ref b643), .unset, .unset, .unset, .unset, .unset] [(.int ((own_put (own_put (fun _ => (0 : Int32)) 0 a1) 1 b1) 0))])) t := fun t k => by rw [(show (own_put (own_put (fun _ => (0 : Int32)) 0 a1) 1 b1) 0 = a1 from rfl)]; exact k
  have E667 := own_NI_exa hN659
  have S669 : ∀ t, Steps p.tables e below (T665.setTop (mkF m 36 #[.val (.int a1), .val (.int b1), .val (.int c1), .val (.int d1), .val (.ref b643), .val (.int a1), .unset, .unset, .unset, .unset] [(.int c1), (.int (2 : Int32)), (.ref b643)])) t → Steps p.tables e below (T665.setTop (mkF m 30 #[.val (.int a1), .val (.int b1), .val (.int c1), .val (.int d1), .val (.ref b643), .unset, .unset, .unset, .unset, .unset] [(.int a1)])) t := by
    intro t kt
    show Steps p.tables e below (T665.setTop (mkF m 30 #[.val (.int a1), .val (.int b1), .val (.int c1), .val (.int d1), .val (.ref b643), .unset, .unset, .unset, .unset, .unset] [(.int a1)])) _
    refine XS.istore X665.here hx rfl (hb hby at_30) rfl (l' := #[.val (.int a1), .val (.int b1), .val (.int c1), .val (.int d1), .val (.ref b643), .val (.int a1), .unset, .unset, .unset, .unset]) rfl ?_
    show Steps p.tables e below (T665.setTop (mkF m 32 #[.val (.int a1), .val (.int b1), .val (.int c1), .val (.int d1), .val (.ref b643), .val (.int a1), .unset, .unset, .unset, .unset] [])) _
    refine XS.aload X665.here hx rfl (hb hby at_32) rfl rfl ?_
    show Steps p.tables e below (T665.setTop (mkF m 34 #[.val (.int a1), .val (.int b1), .val (.int c1), .val (.int d1), .val (.ref b643), .val (.int a1), .unset, .unset, .unset, .unset] [(.ref b643)])) _
    refine XS.iconst X665.here hx rfl (hb hby at_34) ?_
    show Steps p.tables e below (T665.setTop (mkF m 35 #[.val (.int a1), .val (.int b1), .val (.int c1), .val (.int d1), .val (.ref b643), .val (.int a1), .unset, .unset, .unset, .unset] [(.int (2 : Int32)), (.ref b643)])) _
    refine XS.iloadN X665.here hx rfl (hb hby at_35) rfl ?_
    exact kt
  obtain ⟨cq670, kq670, q670a, q670b, q670c⟩ := isOf hZ e665 E667
  obtain ⟨_, _, ⟨T670, L670, k670, n670⟩, -, X670, ⟨Lc670, hQ670, l670, y670, z670⟩, st670⟩ := X665.virtualBack hx (y := (⟨"com/example/joinery/joinery/NarrowInts", "set", "(II)V"⟩ : MethodName)) (z := (⟨"com/example/joinery/joinery/NarrowInts", "set", "(II)V"⟩ : MethodName)) hown (mvT hZ (hw _ (List.mem_of_getElem? (i := 14) rfl))) (mvT hZ (hw _ (List.mem_of_getElem? (i := 15) rfl))) (notFace_of_selects (args := #[]) (mvT hZ (hw _ (List.mem_of_getElem? (i := 17) rfl)))) (mvT hZ (hw _ (List.mem_of_getElem? (i := 17) rfl))) (mvT hZ (hw _ (List.mem_of_getElem? (i := 16) rfl))) (by decide) (backOf (W := 0) (rm_set l Z a0 hw [] b643 (2 : Int32) c1 2 (own_put (own_put (fun _ => (0 : Int32)) 0 a1) 1 b1) h661 n0 z662 hN659 (show (2 : Int32).toInt = ((2 : Nat) : Int) ∧ 2 < 4 from ⟨by decide, by decide⟩)) hZ (hw _ (List.mem_of_getElem? (i := 18) rfl)) (hw _ (List.mem_of_getElem? (i := 2) rfl)) (by decide) (by decide)) q670a q670c (g := (mkF m 36 #[.val (.int a1), .val (.int b1), .val (.int c1), .val (.int d1), .val (.ref b643), .val (.int a1), .unset, .unset, .unset, .unset] [(.int c1), (.int (2 : Int32)), (.ref b643)])) rfl (by rw [hml]; rfl) (Steps.refl _) (argsL := [(.int (2 : Int32)), (.int c1)]) (rest := []) (lenOf pd_1 rfl) rfl (by show 2 * 0 + _ ≤ _; exact Nat.le_of_eq rfl) (hb hby at_36) (fun _ _ => ⟨rfl, e665, (by decide : 6 + 2 ≤ _), (by decide : 24 + 8 ≤ _)⟩)
  dsimp only [Pt.U, Pt.locs, Pt.cells, Pt.slots] at X670 l670 y670 z670 st670 hQ670
  subst l670 y670 z670
  obtain ⟨h670, e670⟩ : ∃ z, T670.heap = z := ⟨_, rfl⟩
  rw [e670] at hQ670
  obtain ⟨rfl, N670q, z671, hN668⟩ := hQ670
  have N670 := Fr.app N665 N670q
  have E672 := own_NI_exa hN668
  have S674 : ∀ t, Steps p.tables e below (T670.setTop (mkF m 43 #[.val (.int a1), .val (.int b1), .val (.int c1), .val (.int d1), .val (.ref b643), .val (.int a1), .unset, .unset, .unset, .unset] [(.int d1), (.int (0 : Int32)), (.ref b643)])) t → Steps p.tables e below (T670.setTop (mkF m 39 #[.val (.int a1), .val (.int b1), .val (.int c1), .val (.int d1), .val (.ref b643), .val (.int a1), .unset, .unset, .unset, .unset] [])) t := by
    intro t kt
    show Steps p.tables e below (T670.setTop (mkF m 39 #[.val (.int a1), .val (.int b1), .val (.int c1), .val (.int d1), .val (.ref b643), .val (.int a1), .unset, .unset, .unset, .unset] [])) _
    refine XS.aload X670.here hx rfl (hb hby at_39) rfl rfl ?_
    show Steps p.tables e below (T670.setTop (mkF m 41 #[.val (.int a1), .val (.int b1), .val (.int c1), .val (.int d1), .val (.ref b643), .val (.int a1), .unset, .unset, .unset, .unset] [(.ref b643)])) _
    refine XS.iconst X670.here hx rfl (hb hby at_41) ?_
    show Steps p.tables e below (T670.setTop (mkF m 42 #[.val (.int a1), .val (.int b1), .val (.int c1), .val (.int d1), .val (.ref b643), .val (.int a1), .unset, .unset, .unset, .unset] [(.int (0 : Int32)), (.ref b643)])) _
    refine XS.iloadN X670.here hx rfl (hb hby at_42) rfl ?_
    exact kt
  obtain ⟨cq675, kq675, q675a, q675b, q675c⟩ := isOf hZ e670 E672
  obtain ⟨_, _, ⟨T675, L675, k675, n675⟩, -, X675, ⟨Lc675, hQ675, l675, y675, z675⟩, st675⟩ := X670.virtualBack hx (y := (⟨"com/example/joinery/joinery/NarrowInts", "set", "(II)V"⟩ : MethodName)) (z := (⟨"com/example/joinery/joinery/NarrowInts", "set", "(II)V"⟩ : MethodName)) hown (mvT hZ (hw _ (List.mem_of_getElem? (i := 14) rfl))) (mvT hZ (hw _ (List.mem_of_getElem? (i := 15) rfl))) (notFace_of_selects (args := #[]) (mvT hZ (hw _ (List.mem_of_getElem? (i := 17) rfl)))) (mvT hZ (hw _ (List.mem_of_getElem? (i := 17) rfl))) (mvT hZ (hw _ (List.mem_of_getElem? (i := 16) rfl))) (by decide) (backOf (W := 0) (rm_set l Z a0 hw [] b643 (0 : Int32) d1 0 (own_put (own_put (own_put (fun _ => (0 : Int32)) 0 a1) 1 b1) 2 c1) h670 n0 z671 hN668 (show (0 : Int32).toInt = ((0 : Nat) : Int) ∧ 0 < 4 from ⟨by decide, by decide⟩)) hZ (hw _ (List.mem_of_getElem? (i := 18) rfl)) (hw _ (List.mem_of_getElem? (i := 2) rfl)) (by decide) (by decide)) q675a q675c (g := (mkF m 43 #[.val (.int a1), .val (.int b1), .val (.int c1), .val (.int d1), .val (.ref b643), .val (.int a1), .unset, .unset, .unset, .unset] [(.int d1), (.int (0 : Int32)), (.ref b643)])) rfl (by rw [hml]; rfl) (Steps.refl _) (argsL := [(.int (0 : Int32)), (.int d1)]) (rest := []) (lenOf pd_1 rfl) rfl (by show 2 * 0 + _ ≤ _; exact Nat.le_of_eq rfl) (hb hby at_43) (fun _ _ => ⟨rfl, e670, (by decide : 8 + 2 ≤ _), (by decide : 32 + 8 ≤ _)⟩)
  dsimp only [Pt.U, Pt.locs, Pt.cells, Pt.slots] at X675 l675 y675 z675 st675 hQ675
  subst l675 y675 z675
  obtain ⟨h675, e675⟩ : ∃ z, T675.heap = z := ⟨_, rfl⟩
  rw [e675] at hQ675
  obtain ⟨rfl, N675q, z676, hN673⟩ := hQ675
  have N675 := Fr.app N670 N675q
  have E677 := own_NI_exa hN673
  have S678 : ∀ t, Steps p.tables e below (T675.setTop (mkF m 49 #[.val (.int a1), .val (.int b1), .val (.int c1), .val (.int d1), .val (.ref b643), .val (.int a1), .unset, .unset, .unset, .unset] [(.int (0 : Int32)), (.ref b643)])) t → Steps p.tables e below (T675.setTop (mkF m 46 #[.val (.int a1), .val (.int b1), .val (.int c1), .val (.int d1), .val (.ref b643), .val (.int a1), .unset, .unset, .unset, .unset] [])) t := by
    intro t kt
    show Steps p.tables e below (T675.setTop (mkF m 46 #[.val (.int a1), .val (.int b1), .val (.int c1), .val (.int d1), .val (.ref b643), .val (.int a1), .unset, .unset, .unset, .unset] [])) _
    refine XS.aload X675.here hx rfl (hb hby at_46) rfl rfl ?_
    show Steps p.tables e below (T675.setTop (mkF m 48 #[.val (.int a1), .val (.int b1), .val (.int c1), .val (.int d1), .val (.ref b643), .val (.int a1), .unset, .unset, .unset, .unset] [(.ref b643)])) _
    refine XS.iconst X675.here hx rfl (hb hby at_48) ?_
    exact kt
  obtain ⟨cq679, kq679, q679a, q679b, q679c⟩ := isOf hZ e675 E677
  obtain ⟨_, _, ⟨T679, L679, k679, n679⟩, -, X679, ⟨Lc679, hQ679, l679, y679, z679⟩, st679⟩ := X675.virtualBack hx (y := (⟨"com/example/joinery/joinery/NarrowInts", "get", "(I)I"⟩ : MethodName)) (z := (⟨"com/example/joinery/joinery/NarrowInts", "get", "(I)I"⟩ : MethodName)) hown (mvT hZ (hw _ (List.mem_of_getElem? (i := 19) rfl))) (mvT hZ (hw _ (List.mem_of_getElem? (i := 20) rfl))) (notFace_of_selects (args := #[]) (mvT hZ (hw _ (List.mem_of_getElem? (i := 22) rfl)))) (mvT hZ (hw _ (List.mem_of_getElem? (i := 22) rfl))) (mvT hZ (hw _ (List.mem_of_getElem? (i := 21) rfl))) (by decide) (backOf (W := 0) (rm_get l Z a0 hw [] b643 (0 : Int32) 0 (own_put (own_put (own_put (own_put (fun _ => (0 : Int32)) 0 a1) 1 b1) 2 c1) 0 d1) h675 n0 z676 hN673 (show (0 : Int32).toInt = ((0 : Nat) : Int) ∧ 0 < 4 from ⟨by decide, by decide⟩)) hZ (hw _ (List.mem_of_getElem? (i := 23) rfl)) (hw _ (List.mem_of_getElem? (i := 2) rfl)) (by decide) (by decide)) q679a q679c (g := (mkF m 49 #[.val (.int a1), .val (.int b1), .val (.int c1), .val (.int d1), .val (.ref b643), .val (.int a1), .unset, .unset, .unset, .unset] [(.int (0 : Int32)), (.ref b643)])) rfl (by rw [hml]; rfl) (Steps.refl _) (argsL := [(.int (0 : Int32))]) (rest := []) (lenOf pd_2 rfl) rfl (by show 2 * 0 + _ ≤ _; exact Nat.le_of_eq rfl) (hb hby at_49) (fun _ _ => ⟨rfl, e675, (by decide : 10 + 0 ≤ _), (by decide : 40 + 0 ≤ _)⟩)
  dsimp only [Pt.U, Pt.locs, Pt.cells, Pt.slots] at X679 l679 y679 z679 st679 hQ679
  subst l679 y679 z679
  obtain ⟨rfl, N679q, e679⟩ := hQ679
  have N679 := Fr.app N675 N679q
  have S680 : ∀ t, Steps p.tables e below (T679.setTop (mkF m 52 #[.val (.int a1), .val (.int b1), .val (.int c1), .val (.int d1), .val (.ref b643), .val (.int a1), .unset, .unset, .unset, .unset] [(.int d1)])) t → Steps p.tables e below (T679.setTop (mkF m 52 #[.val (.int a1), .val (.int b1), .val (.int c1), .val (.int d1), .val (.ref b643), .val (.int a1), .unset, .unset, .unset, .unset] [(.int ((own_put (own_put (own_put (own_put (fun _ => (0 : Int32)) 0 a1) 1 b1) 2 c1) 0 d1) 0))])) t := fun t k => by rw [(show (own_put (own_put (own_put (own_put (fun _ => (0 : Int32)) 0 a1) 1 b1) 2 c1) 0 d1) 0 = d1 from rfl)]; exact k
  have E681 := own_NI_exa hN673
  have S682 : ∀ t, Steps p.tables e below (T679.setTop (mkF m 57 #[.val (.int a1), .val (.int b1), .val (.int c1), .val (.int d1), .val (.ref b643), .val (.int a1), .val (.int d1), .unset, .unset, .unset] [(.int (1 : Int32)), (.ref b643)])) t → Steps p.tables e below (T679.setTop (mkF m 52 #[.val (.int a1), .val (.int b1), .val (.int c1), .val (.int d1), .val (.ref b643), .val (.int a1), .unset, .unset, .unset, .unset] [(.int d1)])) t := by
    intro t kt
    show Steps p.tables e below (T679.setTop (mkF m 52 #[.val (.int a1), .val (.int b1), .val (.int c1), .val (.int d1), .val (.ref b643), .val (.int a1), .unset, .unset, .unset, .unset] [(.int d1)])) _
    refine XS.istore X679.here hx rfl (hb hby at_52) rfl (l' := #[.val (.int a1), .val (.int b1), .val (.int c1), .val (.int d1), .val (.ref b643), .val (.int a1), .val (.int d1), .unset, .unset, .unset]) rfl ?_
    show Steps p.tables e below (T679.setTop (mkF m 54 #[.val (.int a1), .val (.int b1), .val (.int c1), .val (.int d1), .val (.ref b643), .val (.int a1), .val (.int d1), .unset, .unset, .unset] [])) _
    refine XS.aload X679.here hx rfl (hb hby at_54) rfl rfl ?_
    show Steps p.tables e below (T679.setTop (mkF m 56 #[.val (.int a1), .val (.int b1), .val (.int c1), .val (.int d1), .val (.ref b643), .val (.int a1), .val (.int d1), .unset, .unset, .unset] [(.ref b643)])) _
    refine XS.iconst X679.here hx rfl (hb hby at_56) ?_
    exact kt
  obtain ⟨cq683, kq683, q683a, q683b, q683c⟩ := isOf hZ e679 E681
  obtain ⟨_, _, ⟨T683, L683, k683, n683⟩, -, X683, ⟨Lc683, hQ683, l683, y683, z683⟩, st683⟩ := X679.virtualBack hx (y := (⟨"com/example/joinery/joinery/NarrowInts", "get", "(I)I"⟩ : MethodName)) (z := (⟨"com/example/joinery/joinery/NarrowInts", "get", "(I)I"⟩ : MethodName)) hown (mvT hZ (hw _ (List.mem_of_getElem? (i := 19) rfl))) (mvT hZ (hw _ (List.mem_of_getElem? (i := 20) rfl))) (notFace_of_selects (args := #[]) (mvT hZ (hw _ (List.mem_of_getElem? (i := 22) rfl)))) (mvT hZ (hw _ (List.mem_of_getElem? (i := 22) rfl))) (mvT hZ (hw _ (List.mem_of_getElem? (i := 21) rfl))) (by decide) (backOf (W := 0) (rm_get l Z a0 hw [] b643 (1 : Int32) 1 (own_put (own_put (own_put (own_put (fun _ => (0 : Int32)) 0 a1) 1 b1) 2 c1) 0 d1) h675 n0 z676 hN673 (show (1 : Int32).toInt = ((1 : Nat) : Int) ∧ 1 < 4 from ⟨by decide, by decide⟩)) hZ (hw _ (List.mem_of_getElem? (i := 23) rfl)) (hw _ (List.mem_of_getElem? (i := 2) rfl)) (by decide) (by decide)) q683a q683c (g := (mkF m 57 #[.val (.int a1), .val (.int b1), .val (.int c1), .val (.int d1), .val (.ref b643), .val (.int a1), .val (.int d1), .unset, .unset, .unset] [(.int (1 : Int32)), (.ref b643)])) rfl (by rw [hml]; rfl) (Steps.refl _) (argsL := [(.int (1 : Int32))]) (rest := []) (lenOf pd_2 rfl) rfl (by show 2 * 0 + _ ≤ _; exact Nat.le_of_eq rfl) (hb hby at_57) (fun _ _ => ⟨rfl, e679, (by decide : 10 + 0 ≤ _), (by decide : 40 + 0 ≤ _)⟩)
  dsimp only [Pt.U, Pt.locs, Pt.cells, Pt.slots] at X683 l683 y683 z683 st683 hQ683
  subst l683 y683 z683
  obtain ⟨rfl, N683q, e683⟩ := hQ683
  have N683 := Fr.app N679 N683q
  have S684 : ∀ t, Steps p.tables e below (T683.setTop (mkF m 60 #[.val (.int a1), .val (.int b1), .val (.int c1), .val (.int d1), .val (.ref b643), .val (.int a1), .val (.int d1), .unset, .unset, .unset] [(.int b1)])) t → Steps p.tables e below (T683.setTop (mkF m 60 #[.val (.int a1), .val (.int b1), .val (.int c1), .val (.int d1), .val (.ref b643), .val (.int a1), .val (.int d1), .unset, .unset, .unset] [(.int ((own_put (own_put (own_put (own_put (fun _ => (0 : Int32)) 0 a1) 1 b1) 2 c1) 0 d1) 1))])) t := fun t k => by rw [(show (own_put (own_put (own_put (own_put (fun _ => (0 : Int32)) 0 a1) 1 b1) 2 c1) 0 d1) 1 = b1 from rfl)]; exact k
  have E685 := own_NI_exa hN673
  have S686 : ∀ t, Steps p.tables e below (T683.setTop (mkF m 65 #[.val (.int a1), .val (.int b1), .val (.int c1), .val (.int d1), .val (.ref b643), .val (.int a1), .val (.int d1), .val (.int b1), .unset, .unset] [(.int (2 : Int32)), (.ref b643)])) t → Steps p.tables e below (T683.setTop (mkF m 60 #[.val (.int a1), .val (.int b1), .val (.int c1), .val (.int d1), .val (.ref b643), .val (.int a1), .val (.int d1), .unset, .unset, .unset] [(.int b1)])) t := by
    intro t kt
    show Steps p.tables e below (T683.setTop (mkF m 60 #[.val (.int a1), .val (.int b1), .val (.int c1), .val (.int d1), .val (.ref b643), .val (.int a1), .val (.int d1), .unset, .unset, .unset] [(.int b1)])) _
    refine XS.istore X683.here hx rfl (hb hby at_60) rfl (l' := #[.val (.int a1), .val (.int b1), .val (.int c1), .val (.int d1), .val (.ref b643), .val (.int a1), .val (.int d1), .val (.int b1), .unset, .unset]) rfl ?_
    show Steps p.tables e below (T683.setTop (mkF m 62 #[.val (.int a1), .val (.int b1), .val (.int c1), .val (.int d1), .val (.ref b643), .val (.int a1), .val (.int d1), .val (.int b1), .unset, .unset] [])) _
    refine XS.aload X683.here hx rfl (hb hby at_62) rfl rfl ?_
    show Steps p.tables e below (T683.setTop (mkF m 64 #[.val (.int a1), .val (.int b1), .val (.int c1), .val (.int d1), .val (.ref b643), .val (.int a1), .val (.int d1), .val (.int b1), .unset, .unset] [(.ref b643)])) _
    refine XS.iconst X683.here hx rfl (hb hby at_64) ?_
    exact kt
  obtain ⟨cq687, kq687, q687a, q687b, q687c⟩ := isOf hZ e683 E685
  obtain ⟨_, _, ⟨T687, L687, k687, n687⟩, -, X687, ⟨Lc687, hQ687, l687, y687, z687⟩, st687⟩ := X683.virtualBack hx (y := (⟨"com/example/joinery/joinery/NarrowInts", "get", "(I)I"⟩ : MethodName)) (z := (⟨"com/example/joinery/joinery/NarrowInts", "get", "(I)I"⟩ : MethodName)) hown (mvT hZ (hw _ (List.mem_of_getElem? (i := 19) rfl))) (mvT hZ (hw _ (List.mem_of_getElem? (i := 20) rfl))) (notFace_of_selects (args := #[]) (mvT hZ (hw _ (List.mem_of_getElem? (i := 22) rfl)))) (mvT hZ (hw _ (List.mem_of_getElem? (i := 22) rfl))) (mvT hZ (hw _ (List.mem_of_getElem? (i := 21) rfl))) (by decide) (backOf (W := 0) (rm_get l Z a0 hw [] b643 (2 : Int32) 2 (own_put (own_put (own_put (own_put (fun _ => (0 : Int32)) 0 a1) 1 b1) 2 c1) 0 d1) h675 n0 z676 hN673 (show (2 : Int32).toInt = ((2 : Nat) : Int) ∧ 2 < 4 from ⟨by decide, by decide⟩)) hZ (hw _ (List.mem_of_getElem? (i := 23) rfl)) (hw _ (List.mem_of_getElem? (i := 2) rfl)) (by decide) (by decide)) q687a q687c (g := (mkF m 65 #[.val (.int a1), .val (.int b1), .val (.int c1), .val (.int d1), .val (.ref b643), .val (.int a1), .val (.int d1), .val (.int b1), .unset, .unset] [(.int (2 : Int32)), (.ref b643)])) rfl (by rw [hml]; rfl) (Steps.refl _) (argsL := [(.int (2 : Int32))]) (rest := []) (lenOf pd_2 rfl) rfl (by show 2 * 0 + _ ≤ _; exact Nat.le_of_eq rfl) (hb hby at_65) (fun _ _ => ⟨rfl, e683, (by decide : 10 + 0 ≤ _), (by decide : 40 + 0 ≤ _)⟩)
  dsimp only [Pt.U, Pt.locs, Pt.cells, Pt.slots] at X687 l687 y687 z687 st687 hQ687
  subst l687 y687 z687
  obtain ⟨rfl, N687q, e687⟩ := hQ687
  have N687 := Fr.app N683 N687q
  have S688 : ∀ t, Steps p.tables e below (T687.setTop (mkF m 68 #[.val (.int a1), .val (.int b1), .val (.int c1), .val (.int d1), .val (.ref b643), .val (.int a1), .val (.int d1), .val (.int b1), .unset, .unset] [(.int c1)])) t → Steps p.tables e below (T687.setTop (mkF m 68 #[.val (.int a1), .val (.int b1), .val (.int c1), .val (.int d1), .val (.ref b643), .val (.int a1), .val (.int d1), .val (.int b1), .unset, .unset] [(.int ((own_put (own_put (own_put (own_put (fun _ => (0 : Int32)) 0 a1) 1 b1) 2 c1) 0 d1) 2))])) t := fun t k => by rw [(show (own_put (own_put (own_put (own_put (fun _ => (0 : Int32)) 0 a1) 1 b1) 2 c1) 0 d1) 2 = c1 from rfl)]; exact k
  have E689 := own_NI_exa hN673
  have S690 : ∀ t, Steps p.tables e below (T687.setTop (mkF m 73 #[.val (.int a1), .val (.int b1), .val (.int c1), .val (.int d1), .val (.ref b643), .val (.int a1), .val (.int d1), .val (.int b1), .val (.int c1), .unset] [(.int (3 : Int32)), (.ref b643)])) t → Steps p.tables e below (T687.setTop (mkF m 68 #[.val (.int a1), .val (.int b1), .val (.int c1), .val (.int d1), .val (.ref b643), .val (.int a1), .val (.int d1), .val (.int b1), .unset, .unset] [(.int c1)])) t := by
    intro t kt
    show Steps p.tables e below (T687.setTop (mkF m 68 #[.val (.int a1), .val (.int b1), .val (.int c1), .val (.int d1), .val (.ref b643), .val (.int a1), .val (.int d1), .val (.int b1), .unset, .unset] [(.int c1)])) _
    refine XS.istore X687.here hx rfl (hb hby at_68) rfl (l' := #[.val (.int a1), .val (.int b1), .val (.int c1), .val (.int d1), .val (.ref b643), .val (.int a1), .val (.int d1), .val (.int b1), .val (.int c1), .unset]) rfl ?_
    show Steps p.tables e below (T687.setTop (mkF m 70 #[.val (.int a1), .val (.int b1), .val (.int c1), .val (.int d1), .val (.ref b643), .val (.int a1), .val (.int d1), .val (.int b1), .val (.int c1), .unset] [])) _
    refine XS.aload X687.here hx rfl (hb hby at_70) rfl rfl ?_
    show Steps p.tables e below (T687.setTop (mkF m 72 #[.val (.int a1), .val (.int b1), .val (.int c1), .val (.int d1), .val (.ref b643), .val (.int a1), .val (.int d1), .val (.int b1), .val (.int c1), .unset] [(.ref b643)])) _
    refine XS.iconst X687.here hx rfl (hb hby at_72) ?_
    exact kt
  obtain ⟨cq691, kq691, q691a, q691b, q691c⟩ := isOf hZ e687 E689
  obtain ⟨_, _, ⟨T691, L691, k691, n691⟩, -, X691, ⟨Lc691, hQ691, l691, y691, z691⟩, st691⟩ := X687.virtualBack hx (y := (⟨"com/example/joinery/joinery/NarrowInts", "get", "(I)I"⟩ : MethodName)) (z := (⟨"com/example/joinery/joinery/NarrowInts", "get", "(I)I"⟩ : MethodName)) hown (mvT hZ (hw _ (List.mem_of_getElem? (i := 19) rfl))) (mvT hZ (hw _ (List.mem_of_getElem? (i := 20) rfl))) (notFace_of_selects (args := #[]) (mvT hZ (hw _ (List.mem_of_getElem? (i := 22) rfl)))) (mvT hZ (hw _ (List.mem_of_getElem? (i := 22) rfl))) (mvT hZ (hw _ (List.mem_of_getElem? (i := 21) rfl))) (by decide) (backOf (W := 0) (rm_get l Z a0 hw [] b643 (3 : Int32) 3 (own_put (own_put (own_put (own_put (fun _ => (0 : Int32)) 0 a1) 1 b1) 2 c1) 0 d1) h675 n0 z676 hN673 (show (3 : Int32).toInt = ((3 : Nat) : Int) ∧ 3 < 4 from ⟨by decide, by decide⟩)) hZ (hw _ (List.mem_of_getElem? (i := 23) rfl)) (hw _ (List.mem_of_getElem? (i := 2) rfl)) (by decide) (by decide)) q691a q691c (g := (mkF m 73 #[.val (.int a1), .val (.int b1), .val (.int c1), .val (.int d1), .val (.ref b643), .val (.int a1), .val (.int d1), .val (.int b1), .val (.int c1), .unset] [(.int (3 : Int32)), (.ref b643)])) rfl (by rw [hml]; rfl) (Steps.refl _) (argsL := [(.int (3 : Int32))]) (rest := []) (lenOf pd_2 rfl) rfl (by show 2 * 0 + _ ≤ _; exact Nat.le_of_eq rfl) (hb hby at_73) (fun _ _ => ⟨rfl, e687, (by decide : 10 + 0 ≤ _), (by decide : 40 + 0 ≤ _)⟩)
  dsimp only [Pt.U, Pt.locs, Pt.cells, Pt.slots] at X691 l691 y691 z691 st691 hQ691
  subst l691 y691 z691
  obtain ⟨rfl, N691q, e691⟩ := hQ691
  have N691 := Fr.app N687 N691q
  have S692 : ∀ t, Steps p.tables e below (T691.setTop (mkF m 76 #[.val (.int a1), .val (.int b1), .val (.int c1), .val (.int d1), .val (.ref b643), .val (.int a1), .val (.int d1), .val (.int b1), .val (.int c1), .unset] [(.int (0 : Int32))])) t → Steps p.tables e below (T691.setTop (mkF m 76 #[.val (.int a1), .val (.int b1), .val (.int c1), .val (.int d1), .val (.ref b643), .val (.int a1), .val (.int d1), .val (.int b1), .val (.int c1), .unset] [(.int ((own_put (own_put (own_put (own_put (fun _ => (0 : Int32)) 0 a1) 1 b1) 2 c1) 0 d1) 3))])) t := fun t k => by rw [(show (own_put (own_put (own_put (own_put (fun _ => (0 : Int32)) 0 a1) 1 b1) 2 c1) 0 d1) 3 = (0 : Int32) from rfl)]; exact k
  have S693 : ∀ t, Steps p.tables e below (T691.setTop (mkF m 112 #[.val (.int a1), .val (.int b1), .val (.int c1), .val (.int d1), .val (.ref b643), .val (.int a1), .val (.int d1), .val (.int b1), .val (.int c1), .val (.int (0 : Int32))] [(.int (1 : Int32))])) t → Steps p.tables e below (T691.setTop (mkF m 76 #[.val (.int a1), .val (.int b1), .val (.int c1), .val (.int d1), .val (.ref b643), .val (.int a1), .val (.int d1), .val (.int b1), .val (.int c1), .unset] [(.int (0 : Int32))])) t := by
    intro t kt
    show Steps p.tables e below (T691.setTop (mkF m 76 #[.val (.int a1), .val (.int b1), .val (.int c1), .val (.int d1), .val (.ref b643), .val (.int a1), .val (.int d1), .val (.int b1), .val (.int c1), .unset] [(.int (0 : Int32))])) _
    refine XS.istore X691.here hx rfl (hb hby at_76) rfl (l' := #[.val (.int a1), .val (.int b1), .val (.int c1), .val (.int d1), .val (.ref b643), .val (.int a1), .val (.int d1), .val (.int b1), .val (.int c1), .val (.int (0 : Int32))]) rfl ?_
    show Steps p.tables e below (T691.setTop (mkF m 78 #[.val (.int a1), .val (.int b1), .val (.int c1), .val (.int d1), .val (.ref b643), .val (.int a1), .val (.int d1), .val (.int b1), .val (.int c1), .val (.int (0 : Int32))] [])) _
    refine XS.iload X691.here hx rfl (hb hby at_78) rfl ?_
    show Steps p.tables e below (T691.setTop (mkF m 80 #[.val (.int a1), .val (.int b1), .val (.int c1), .val (.int d1), .val (.ref b643), .val (.int a1), .val (.int d1), .val (.int b1), .val (.int c1), .val (.int (0 : Int32))] [(.int a1)])) _
    refine XS.iloadN X691.here hx rfl (hb hby at_80) rfl ?_
    show Steps p.tables e below (T691.setTop (mkF m 81 #[.val (.int a1), .val (.int b1), .val (.int c1), .val (.int d1), .val (.ref b643), .val (.int a1), .val (.int d1), .val (.int b1), .val (.int c1), .val (.int (0 : Int32))] [(.int a1), (.int a1)])) _
    refine XS.icmpNo X691.here hx rfl (hb hby at_81) rfl (teq rfl).2 ?_
    show Steps p.tables e below (T691.setTop (mkF m 84 #[.val (.int a1), .val (.int b1), .val (.int c1), .val (.int d1), .val (.ref b643), .val (.int a1), .val (.int d1), .val (.int b1), .val (.int c1), .val (.int (0 : Int32))] [])) _
    refine XS.iload X691.here hx rfl (hb hby at_84) rfl ?_
    show Steps p.tables e below (T691.setTop (mkF m 86 #[.val (.int a1), .val (.int b1), .val (.int c1), .val (.int d1), .val (.ref b643), .val (.int a1), .val (.int d1), .val (.int b1), .val (.int c1), .val (.int (0 : Int32))] [(.int d1)])) _
    refine XS.iloadN X691.here hx rfl (hb hby at_86) rfl ?_
    show Steps p.tables e below (T691.setTop (mkF m 87 #[.val (.int a1), .val (.int b1), .val (.int c1), .val (.int d1), .val (.ref b643), .val (.int a1), .val (.int d1), .val (.int b1), .val (.int c1), .val (.int (0 : Int32))] [(.int d1), (.int d1)])) _
    refine XS.icmpNo X691.here hx rfl (hb hby at_87) rfl (teq rfl).2 ?_
    show Steps p.tables e below (T691.setTop (mkF m 90 #[.val (.int a1), .val (.int b1), .val (.int c1), .val (.int d1), .val (.ref b643), .val (.int a1), .val (.int d1), .val (.int b1), .val (.int c1), .val (.int (0 : Int32))] [])) _
    refine XS.iload X691.here hx rfl (hb hby at_90) rfl ?_
    show Steps p.tables e below (T691.setTop (mkF m 92 #[.val (.int a1), .val (.int b1), .val (.int c1), .val (.int d1), .val (.ref b643), .val (.int a1), .val (.int d1), .val (.int b1), .val (.int c1), .val (.int (0 : Int32))] [(.int b1)])) _
    refine XS.iloadN X691.here hx rfl (hb hby at_92) rfl ?_
    show Steps p.tables e below (T691.setTop (mkF m 93 #[.val (.int a1), .val (.int b1), .val (.int c1), .val (.int d1), .val (.ref b643), .val (.int a1), .val (.int d1), .val (.int b1), .val (.int c1), .val (.int (0 : Int32))] [(.int b1), (.int b1)])) _
    refine XS.icmpNo X691.here hx rfl (hb hby at_93) rfl (teq rfl).2 ?_
    show Steps p.tables e below (T691.setTop (mkF m 96 #[.val (.int a1), .val (.int b1), .val (.int c1), .val (.int d1), .val (.ref b643), .val (.int a1), .val (.int d1), .val (.int b1), .val (.int c1), .val (.int (0 : Int32))] [])) _
    refine XS.iload X691.here hx rfl (hb hby at_96) rfl ?_
    show Steps p.tables e below (T691.setTop (mkF m 98 #[.val (.int a1), .val (.int b1), .val (.int c1), .val (.int d1), .val (.ref b643), .val (.int a1), .val (.int d1), .val (.int b1), .val (.int c1), .val (.int (0 : Int32))] [(.int c1)])) _
    refine XS.iloadN X691.here hx rfl (hb hby at_98) rfl ?_
    show Steps p.tables e below (T691.setTop (mkF m 99 #[.val (.int a1), .val (.int b1), .val (.int c1), .val (.int d1), .val (.ref b643), .val (.int a1), .val (.int d1), .val (.int b1), .val (.int c1), .val (.int (0 : Int32))] [(.int c1), (.int c1)])) _
    refine XS.icmpNo X691.here hx rfl (hb hby at_99) rfl (teq rfl).2 ?_
    show Steps p.tables e below (T691.setTop (mkF m 102 #[.val (.int a1), .val (.int b1), .val (.int c1), .val (.int d1), .val (.ref b643), .val (.int a1), .val (.int d1), .val (.int b1), .val (.int c1), .val (.int (0 : Int32))] [])) _
    refine XS.iload X691.here hx rfl (hb hby at_102) rfl ?_
    show Steps p.tables e below (T691.setTop (mkF m 104 #[.val (.int a1), .val (.int b1), .val (.int c1), .val (.int d1), .val (.ref b643), .val (.int a1), .val (.int d1), .val (.int b1), .val (.int c1), .val (.int (0 : Int32))] [(.int (0 : Int32))])) _
    refine XS.ifNo X691.here hx rfl (hb hby at_104) rfl ((if0 _ _).trans (teq rfl).2) ?_
    show Steps p.tables e below (T691.setTop (mkF m 107 #[.val (.int a1), .val (.int b1), .val (.int c1), .val (.int d1), .val (.ref b643), .val (.int a1), .val (.int d1), .val (.int b1), .val (.int c1), .val (.int (0 : Int32))] [])) _
    refine XS.iconst X691.here hx rfl (hb hby at_107) ?_
    show Steps p.tables e below (T691.setTop (mkF m 108 #[.val (.int a1), .val (.int b1), .val (.int c1), .val (.int d1), .val (.ref b643), .val (.int a1), .val (.int d1), .val (.int b1), .val (.int c1), .val (.int (0 : Int32))] [(.int (1 : Int32))])) _
    refine XS.goto X691.here hx rfl (pc0 := 108) (pc' := 112) rfl (hb hby at_108) (by decide) (by decide) ?_
    exact kt
  have C694 : ∀ t, Steps p.tables e below (T691.setTop (mkF m 112 #[.val (.int a1), .val (.int b1), .val (.int c1), .val (.int d1), .val (.ref b643), .val (.int a1), .val (.int d1), .val (.int b1), .val (.int c1), .val (.int (0 : Int32))] [(.int (1 : Int32))])) t → Steps p.tables e below (s₁.setTop (mkF m 0 #[.val (.int a1), .val (.int b1), .val (.int c1), .val (.int d1), .unset, .unset, .unset, .unset, .unset, .unset] [])) t := (fun t k => (st643 t (S650 t (st651.trans (S655 t (st656.trans (S660 t (st661.trans (S664 t (st665.trans (S666 t (S669 t (st670.trans (S674 t (st675.trans (S678 t (st679.trans (S680 t (S682 t (st683.trans (S684 t (S686 t (st687.trans (S688 t (S690 t (st691.trans (S692 t (S693 t k))))))))))))))))))))))))))))
  obtain ⟨fs, hr, hrun, hended, hW, hsame⟩ := X691.leave (v := some (.int (1 : Int32))) (fun h => by rw [Bd.returns] at h; cases h)
  refine ⟨_, _, pre0 _ (C694 _ ?_), hrun, hended, _, _, rfl, ?_, ⟨_, rfl⟩, hW, hsame.mono (by decide) (by decide)⟩
  · exact retN X691 hx (t := .boolean) Bd.returns (by simp) (hb hby at_112) hr
  · show Q_rm0 Z a1 b1 c1 d1 h0 n0 _ T691.heap _
    rw [e691]
    exact ⟨rfl, N691⟩
set_option maxRecDepth 65536 in
set_option maxHeartbeats 40000000 in
theorem comes_1 {Post : Tables → Env → Array Value → State → Outcome → State → Prop} (hpost : ∀ tb e args s v u, (limb_1_1.after args s (.returned v) u = true ∧ limb_1_2.after args s (.returned v) u = true ∧ True) → FrameEnd s (.returned v) u (Jvm.fieldLocs frame_1_writes args s ++ Jvm.arrayLocs frame_1_arrays args s ++ Jvm.staticLocs frame_1_statics s) 16 128 → Post tb e args s (.returned v) u) :
    ArmFor flags0 classFile x code maxLocals ret World_1 tables_1 room_1 Calls_1 rest_1 Pre_1 Post := by
  intro l hfl _ _ p e ha hc hk s m args below hf hA hF happ hP
  obtain ⟨hcalls, hrest, hpre⟩ := hP
  obtain ⟨-, -, -, hnamed, -, -, -, hat⟩ := (Spec.applies_iff hf).mp happ
  obtain ⟨hg, hn⟩ := and_e (Cond.before_iff.mp (show (Jvm.Cond.and given_1 narrow_1).before args s = true from hpre))
  obtain ⟨gg1, gg2⟩ := and_e hg
  obtain ⟨gg3, gg4⟩ := and_e gg2
  obtain ⟨gg5, gg6⟩ := and_e gg4
  obtain ⟨gg7, gg8⟩ := and_e gg6
  obtain ⟨w0, w1, w2, w3, rfl⟩ : ∃ w0 w1 w2 w3 : Value, args = #[w0, w1, w2, w3] := by
    have hs : args.size = 4 := by simpa [Cond.value, given_1] using gg1
    obtain ⟨L⟩ := args
    match L, hs with
    | [w0, w1, w2, w3], _ => exact ⟨w0, w1, w2, w3, rfl⟩
  have hw := fun d (hd : d ∈ tables_1) => atoms_spec (ws := Jvm.Cond.code x code maxLocals ret :: tables_1) hat d (List.mem_cons_of_mem _ hd)
  have hfit : Fit s := fun {y c} hc i hi => by
    obtain ⟨ha, rfl⟩ := Array.getElem?_eq_some_iff.mp hc
    have q := List.all_eq_true.mp ((Array.all_eq_true_iff_forall_mem.mp hF) _ (Array.getElem_mem ha)) i (List.mem_range.mpr hi)
    simpa [Array.getElem?_eq_getElem hi] using q
  obtain ⟨i0, ei0⟩ := is_v gg3
  obtain rfl : w0 = (.int i0) := Option.some.inj ei0
  obtain ⟨i1, ei1⟩ := is_v gg5
  obtain rfl : w1 = (.int i1) := Option.some.inj ei1
  obtain ⟨i2, ei2⟩ := is_v gg7
  obtain rfl : w2 = (.int i2) := Option.some.inj ei2
  obtain ⟨i3, ei3⟩ := is_v gg8
  obtain rfl : w3 = (.int i3) := Option.some.inj ei3
  obtain ⟨n, o, h1, h2, h3, _, L, rfl, ⟨rfl, N⟩, hq⟩ := rm0 l s _ hw tables_1 i0 i1 i2 i3 s.heap s.heap.size (Nat.le_refl _)  p e ha hc hk s m _ below hf ((Spec.applies_iff_loose hf).mp happ).1 ⟨rfl, State.Warmed39.refl s, rfl⟩ trivial
  refine ⟨n, _, h1, h2, h3, hpost _ _ _ _ _ _ ⟨Cond.after_iff.mpr rfl, Cond.after_iff.mpr (eq_i res_at (Term.int_eval (1)) rfl), trivial⟩ ⟨hq.1, hq.2.1, (hq.2.2.sift fun y hy => Or.inr (N y hy)).mono (by decide) (by decide)⟩⟩
theorem main_1_1 : Claimed_1_1 := comes_1 fun _ _ _ _ _ _ h hF => ⟨h.1, hF⟩
theorem main_1_2 : Claimed_1_2 := comes_1 fun _ _ _ _ _ _ h hF => ⟨h.2.1, hF⟩
end Jvm.Pilot.@@N@@
namespace Jvm.Pilot.@@N@@
open Jvm Jvm.ClassFile Sem Op Lib Jvm.Free Jvm.Stand Jvm.Pilot.@@N@@.Jvm.D
/-! MADE BY PROGRAM (witnessworld.py) out of the Statement's table words and the real class files: 11 classes; the members and pool entries that the words name. The judged class is class 1, her method 1. -/
namespace start1
open Jvm.ClassFile
def u (s : String) : CpInfo := .utf8 (stringToUtf16 s)
/-- a pool by its gaps: so many unusable entries, then the entry; so many at the end -/
def gap : Nat → List CpInfo → List CpInfo
  | 0, r => r
  | n + 1, r => .unusable :: gap n r
def poolList (es : List (Nat × CpInfo)) (last : Nat) : List CpInfo := es.foldr (fun e r => gap e.1 (e.2 :: r)) (gap last [])
def pool (es : List (Nat × CpInfo)) (last : Nat) : Array CpInfo := ⟨poolList es last⟩
def fileOf (pool : Array CpInfo) (this : Nat) (attrs : Array Attribute := #[]) (ms : Array MethodInfo := #[]) (fl : Nat := 33) (sup : Nat := 0) (ifs : Array Nat := #[]) (fds : Array FieldInfo := #[]) : ClassFile where
  minorVersion := 0
  majorVersion := 65
  constantPool := pool
  accessFlags := fl
  thisClass := this
  superClass := sup
  interfaces := ifs
  fields := fds
  methods := ms
  attributes := attrs
def plain (name : String) (sup : Option ClassId) : Class where
  name := name
  kind := .ordinary
  loader := none
  accessFlags := 33
  super := sup
  interfaces := #[]
  cf := none
  fields := #[]
  methods := #[]
  instanceTypes := #[]
  staticTypes := #[]
  resolved := #[]
  callSites := []
  init := .initialized
  statics := none
  mirror := none

def pool0 : Array CpInfo := pool [(5, u "<init>"), (0, u "()V"), (1, .class_ 10), (1, u "java/lang/Object")] 113

def k0c0 : Code := { maxStack := 0, maxLocals := 1, code := object_method_1_code, exceptionTable := #[], attributes := #[] }
def k0m0 : Method := { name := "<init>", desc := "()V", sig := { parameters := [], returnType := none }, accessFlags := 1, code := some k0c0 }
/-- java/lang/Object -/
def k0 : Class := { plain "java/lang/Object" none with
  accessFlags := 33
  interfaces := #[]
  cf := some (fileOf pool0 8 #[] #[{ accessFlags := 1, nameIndex := 5, descriptorIndex := 6, attributes := #[] }] 33 0 #[] #[])
  fields := #[]
  methods := #[k0m0]
  instanceTypes := #[]
  staticTypes := #[]
  resolved := Array.replicate 124 none
  statics := none }

def pool1 : Array CpInfo := pool [(2, .class_ 4), (1, u "java/lang/Object"), (0, u "<init>"), (0, u "()V"), (0, .class_ 8), (0, u "com/example/joinery/joinery/NarrowInts"), (0, .methodref 7 10), (0, .nameAndType 5 11), (0, u "(I)V"), (0, .methodref 7 13), (0, .nameAndType 14 15), (0, u "set"), (0, u "(II)V"), (0, .methodref 7 17), (0, .nameAndType 18 19), (0, u "get"), (0, u "(I)I"), (0, .class_ 21), (0, u "com/example/joinery/joinery/NarrowIntsGetPinLaw"), (2, u "law"), (0, u "(IIII)Z")] 3

def k1m0 : Method := { name := "<init>", desc := "()V", sig := { parameters := [], returnType := none }, accessFlags := 1, code := none }
def k1c1 : Code := { maxStack := 3, maxLocals := 10, code := code, exceptionTable := #[], attributes := #[] }
def k1m1 : Method := { name := "law", desc := "(IIII)Z", sig := { parameters := [.int, .int, .int, .int], returnType := some .boolean }, accessFlags := 9, code := some k1c1 }
/-- com/example/joinery/joinery/NarrowIntsGetPinLaw -/
def k1 : Class := { plain "com/example/joinery/joinery/NarrowIntsGetPinLaw" (some 0) with
  accessFlags := 49
  interfaces := #[]
  cf := some (fileOf pool1 20 #[] #[{ accessFlags := 1, nameIndex := 5, descriptorIndex := 6, attributes := #[] }, { accessFlags := 9, nameIndex := 24, descriptorIndex := 25, attributes := #[] }] 49 2 #[] #[])
  fields := #[]
  methods := #[k1m0, k1m1]
  instanceTypes := #[]
  staticTypes := #[]
  resolved := Array.replicate 29 none
  statics := none }

def pool2 : Array CpInfo := pool [(1, .methodref 2 3), (0, .class_ 4), (0, .nameAndType 5 6), (0, u "java/lang/Object"), (0, u "<init>"), (0, u "()V"), (0, .fieldref 8 9), (0, .class_ 10), (0, .nameAndType 11 12), (0, u "com/example/joinery/joinery/NarrowInts"), (0, u "capacity"), (0, u "I"), (0, .fieldref 8 14), (0, .nameAndType 15 16), (0, u "bytes"), (0, u "[B"), (6, .fieldref 8 24), (0, .nameAndType 25 26), (0, u "chars"), (0, u "[C"), (3, .fieldref 8 31), (0, .nameAndType 32 33), (0, u "ints"), (0, u "[I"), (5, .integer 65535), (0, .methodref 8 41), (0, .nameAndType 42 43), (0, u "widenFor"), (0, u "(I)V"), (0, .methodref 8 45), (0, .nameAndType 46 47), (0, u "set"), (0, u "(II)V"), (5, u "get"), (0, u "(I)I")] 3

def k2c0 : Code := { maxStack := 2, maxLocals := 2, code := prog_31_method_1_code, exceptionTable := #[], attributes := #[] }
def k2m0 : Method := { name := "<init>", desc := "(I)V", sig := { parameters := [.int], returnType := none }, accessFlags := 0, code := some k2c0 }
def k2c1 : Code := { maxStack := 3, maxLocals := 3, code := prog_31_method_4_code, exceptionTable := #[], attributes := #[] }
def k2m1 : Method := { name := "set", desc := "(II)V", sig := { parameters := [.int, .int], returnType := none }, accessFlags := 0, code := some k2c1 }
def k2c2 : Code := { maxStack := 2, maxLocals := 2, code := prog_31_method_5_code, exceptionTable := #[], attributes := #[] }
def k2m2 : Method := { name := "get", desc := "(I)I", sig := { parameters := [.int], returnType := some .int }, accessFlags := 0, code := some k2c2 }
def k2c3 : Code := { maxStack := 4, maxLocals := 3, code := prog_31_method_6_code, exceptionTable := #[], attributes := #[] }
def k2m3 : Method := { name := "widenFor", desc := "(I)V", sig := { parameters := [.int], returnType := none }, accessFlags := 2, code := some k2c3 }
/-- com/example/joinery/joinery/NarrowInts -/
def k2 : Class := { plain "com/example/joinery/joinery/NarrowInts" (some 0) with
  accessFlags := 48
  interfaces := #[]
  cf := some (fileOf pool2 8 #[] #[{ accessFlags := 0, nameIndex := 5, descriptorIndex := 43, attributes := #[] }, { accessFlags := 0, nameIndex := 46, descriptorIndex := 47, attributes := #[] }, { accessFlags := 0, nameIndex := 53, descriptorIndex := 54, attributes := #[] }, { accessFlags := 2, nameIndex := 42, descriptorIndex := 43, attributes := #[] }] 48 2 #[] #[{ accessFlags := 2, nameIndex := 15, descriptorIndex := 16, attributes := #[] }, { accessFlags := 2, nameIndex := 25, descriptorIndex := 26, attributes := #[] }, { accessFlags := 2, nameIndex := 32, descriptorIndex := 33, attributes := #[] }, { accessFlags := 2, nameIndex := 11, descriptorIndex := 12, attributes := #[] }])
  fields := #[{ name := "bytes", type := (.array .byte), accessFlags := 2, slot := 0, constantValue := 0 }, { name := "chars", type := (.array .char), accessFlags := 2, slot := 1, constantValue := 0 }, { name := "ints", type := (.array .int), accessFlags := 2, slot := 2, constantValue := 0 }, { name := "capacity", type := .int, accessFlags := 2, slot := 3, constantValue := 0 }]
  methods := #[k2m0, k2m1, k2m2, k2m3]
  instanceTypes := #[(.array .byte), (.array .char), (.array .int), .int]
  staticTypes := #[]
  resolved := Array.replicate 58 none
  statics := none }

def pool3 : Array CpInfo := pool [(1, u "java/lang/Cloneable"), (0, .class_ 1), (0, u "java/lang/Object"), (0, .class_ 3)] 3

/-- java/lang/Cloneable -/
def k3 : Class := { plain "java/lang/Cloneable" (some 0) with
  accessFlags := 1537
  interfaces := #[]
  cf := some (fileOf pool3 2 #[] #[] 1537 4 #[] #[])
  fields := #[]
  methods := #[]
  instanceTypes := #[]
  staticTypes := #[]
  resolved := Array.replicate 8 none
  statics := none }

def pool4 : Array CpInfo := pool [(1, u "java/io/Serializable"), (0, .class_ 1), (0, u "java/lang/Object"), (0, .class_ 3)] 3

/-- java/io/Serializable -/
def k4 : Class := { plain "java/io/Serializable" (some 0) with
  accessFlags := 1537
  interfaces := #[]
  cf := some (fileOf pool4 2 #[] #[] 1537 4 #[] #[])
  fields := #[]
  methods := #[]
  instanceTypes := #[]
  staticTypes := #[]
  resolved := Array.replicate 8 none
  statics := none }

/-- the primitive byte -/
def k5 : Class := { plain "byte" none with kind := .primitive 'B', accessFlags := 0x411 }
/-- [B -/
def k6 : Class := { plain "[B" (some 0) with kind := .array 5 .byte, interfaces := #[3, 4], accessFlags := 1041 }

/-- the primitive char -/
def k7 : Class := { plain "char" none with kind := .primitive 'C', accessFlags := 0x411 }
/-- [C -/
def k8 : Class := { plain "[C" (some 0) with kind := .array 7 .char, interfaces := #[3, 4], accessFlags := 1041 }

/-- the primitive int -/
def k9 : Class := { plain "int" none with kind := .primitive 'I', accessFlags := 0x411 }
/-- [I -/
def k10 : Class := { plain "[I" (some 0) with kind := .array 9 .int, interfaces := #[3, 4], accessFlags := 1041 }

def heap : Heap := #[]
def classes : Array Class := #[k0, k1, k2, k3, k4, k5, k6, k7, k8, k9, k10]
def interned : List (Array UInt16 × Addr) := []
def slotsUsed : Nat := 0
def theMethod : MethodId := ⟨1, 1⟩
def args0 : Array Value := #[.int 5, .int 700, .int 9, .int 100000]
def aboutOver (below : List Frame) : State where
  vm := { classes := classes, interned := interned.toArray }
  heap := heap
  slotsUsed := slotsUsed
  threads := #[{ frames := .invoking theMethod args0 :: below }]
def below0 : List Frame := [.native { method := ⟨0, 0⟩, args := #[] }]
def about1 : State := aboutOver below0
def p0 : Program := .bare "" "" ""
def e0 : Env := launch0.env 0 0 0
theorem w_frames : about1.frames = Frame.invoking theMethod args0 :: below0 := rfl
set_option maxRecDepth 65536 in
theorem w_args : argsFit about1.vm theMethod args0 = true := by decide +kernel
set_option maxRecDepth 65536 in
theorem w_heap : heapFits about1 = true := by decide +kernel
set_option maxRecDepth 65536 in
theorem w_runnable : about1.curStatus? = some .runnable := by decide +kernel
set_option maxRecDepth 65536 in
theorem w_alone : about1.alone = true := by decide +kernel
set_option maxRecDepth 65536 in
theorem w_named : about1.methodNamed? x = some theMethod := by decide +kernel
set_option maxRecDepth 65536 in
theorem w_hears : about1.hears theMethod below0 = true := by decide +kernel
set_option maxRecDepth 65536 in
theorem w_ripe : about1.ripe theMethod args0 below0 = true := by decide +kernel
theorem w_running : about1.status = .running := rfl
set_option maxRecDepth 65536 in
theorem w_room : about1.hasRoom e0.platform room_1 = true :=
  launch0.hasRoom_least _ room_1 (by decide +kernel) (by decide +kernel) (by decide +kernel) (by decide +kernel) (by decide +kernel) (by decide +kernel)
theorem allAtoms_all (ts : List Jvm.Cond) (a : Array Jvm.Value) (st : Jvm.State) : (allAtoms ts).before a st = ts.all (fun c => c.before a st) := by
  induction ts with
  | nil => rfl
  | cons c t ih =>
    show (Jvm.Cond.and c (allAtoms t)).before a st = _
    rw [Jvm.Cond.before_and, ih, List.all_cons]
def words1 : List Jvm.Cond := Jvm.Cond.code x code maxLocals ret :: tables_1
/-- a 'code' word, met by the world's own term for the bytes: nothing is compared byte by byte -/
theorem code_word {y : MethodName} {bytes : ByteArray} {mx : Nat} {rt : Option FieldType} {a : Array Value} {s : State} {m : MethodId} {meth : Method} {c : Code} (h1 : s.methodNamed? y = some m) (h2 : s.vm.method? m = some meth) (h3 : meth.code = some c) (h4 : c.code = bytes)
    (h5 : (c.maxLocals == mx && c.exceptionTable.isEmpty && decide (c.maxStack ≤ mostOperands) && decide (meth.sig.returnType = rt) && !meth.locks && decide (parseMethodDescriptor y.desc = some meth.sig)) = true) : (Jvm.Cond.code y bytes mx rt).before a s = true := by
  simp only [Bool.and_eq_true, beq_iff_eq, Bool.not_eq_true', decide_eq_true_eq] at h5
  obtain ⟨⟨⟨⟨⟨g1, g2⟩, g3⟩, g4⟩, g5⟩, g6⟩ := h5
  simp [Cond.before, Cond.holds, Cond.value, h1, h2, h3, h4, g1, g2, g3, g4, g5, g6]
def isCode : Jvm.Cond → Bool
  | .code _ _ _ _ => true
  | _ => false
theorem all_split {L : List Jvm.Cond} {P : Jvm.Cond → Bool} (h1 : L.all (fun c => isCode c || P c) = true) (h2 : ∀ c ∈ L.filter isCode, P c = true) : L.all P = true := by
  refine List.all_eq_true.mpr fun c hc => ?_
  have h := List.all_eq_true.mp h1 c hc
  rcases Bool.eq_false_or_eq_true (isCode c) with hi | hi
  · exact h2 c (List.mem_filter.mpr ⟨hc, hi⟩)
  · simpa [hi] using h
set_option maxRecDepth 65536 in
theorem w_c0 : (Jvm.Cond.code x code maxLocals ret).before args0 about1 = true := code_word (m := ⟨1, 1⟩) (meth := k1m1) (c := k1c1) (by decide +kernel) rfl rfl rfl (by decide +kernel)
set_option maxRecDepth 65536 in
theorem w_c1 : (Jvm.Cond.code ({ cls := "com/example/joinery/joinery/NarrowInts", name := "<init>", desc := "(I)V" } : Jvm.MethodName) prog_31_method_1_code (2 : Nat) (Option.none : Option Jvm.ClassFile.FieldType)).before args0 about1 = true := code_word (m := ⟨2, 0⟩) (meth := k2m0) (c := k2c0) (by decide +kernel) rfl rfl rfl (by decide +kernel)
set_option maxRecDepth 65536 in
theorem w_c2 : (Jvm.Cond.code ({ cls := "java/lang/Object", name := "<init>", desc := "()V" } : Jvm.MethodName) object_method_1_code (1 : Nat) (Option.none : Option Jvm.ClassFile.FieldType)).before args0 about1 = true := code_word (m := ⟨0, 0⟩) (meth := k0m0) (c := k0c0) (by decide +kernel) rfl rfl rfl (by decide +kernel)
set_option maxRecDepth 65536 in
theorem w_c3 : (Jvm.Cond.code ({ cls := "com/example/joinery/joinery/NarrowInts", name := "set", desc := "(II)V" } : Jvm.MethodName) prog_31_method_4_code (3 : Nat) (Option.none : Option Jvm.ClassFile.FieldType)).before args0 about1 = true := code_word (m := ⟨2, 1⟩) (meth := k2m1) (c := k2c1) (by decide +kernel) rfl rfl rfl (by decide +kernel)
set_option maxRecDepth 65536 in
theorem w_c4 : (Jvm.Cond.code ({ cls := "com/example/joinery/joinery/NarrowInts", name := "get", desc := "(I)I" } : Jvm.MethodName) prog_31_method_5_code (2 : Nat) (Option.some Jvm.ClassFile.FieldType.int)).before args0 about1 = true := code_word (m := ⟨2, 2⟩) (meth := k2m2) (c := k2c2) (by decide +kernel) rfl rfl rfl (by decide +kernel)
set_option maxRecDepth 65536 in
theorem w_c5 : (Jvm.Cond.code ({ cls := "com/example/joinery/joinery/NarrowInts", name := "widenFor", desc := "(I)V" } : Jvm.MethodName) prog_31_method_6_code (3 : Nat) (Option.none : Option Jvm.ClassFile.FieldType)).before args0 about1 = true := code_word (m := ⟨2, 3⟩) (meth := k2m3) (c := k2c3) (by decide +kernel) rfl rfl rfl (by decide +kernel)
def codes1 : List Jvm.Cond := [Jvm.Cond.code x code maxLocals ret, Jvm.Cond.code ({ cls := "com/example/joinery/joinery/NarrowInts", name := "<init>", desc := "(I)V" } : Jvm.MethodName) prog_31_method_1_code (2 : Nat) (Option.none : Option Jvm.ClassFile.FieldType), Jvm.Cond.code ({ cls := "java/lang/Object", name := "<init>", desc := "()V" } : Jvm.MethodName) object_method_1_code (1 : Nat) (Option.none : Option Jvm.ClassFile.FieldType), Jvm.Cond.code ({ cls := "com/example/joinery/joinery/NarrowInts", name := "set", desc := "(II)V" } : Jvm.MethodName) prog_31_method_4_code (3 : Nat) (Option.none : Option Jvm.ClassFile.FieldType), Jvm.Cond.code ({ cls := "com/example/joinery/joinery/NarrowInts", name := "get", desc := "(I)I" } : Jvm.MethodName) prog_31_method_5_code (2 : Nat) (Option.some Jvm.ClassFile.FieldType.int), Jvm.Cond.code ({ cls := "com/example/joinery/joinery/NarrowInts", name := "widenFor", desc := "(I)V" } : Jvm.MethodName) prog_31_method_6_code (3 : Nat) (Option.none : Option Jvm.ClassFile.FieldType)]
set_option maxRecDepth 65536 in
theorem codes_eq : words1.filter isCode = codes1 := rfl
theorem w_codes : ∀ c ∈ words1.filter isCode, c.before args0 about1 = true := by
  rw [codes_eq]
  intro c hc
  simp only [codes1, List.mem_cons, List.not_mem_nil, or_false] at hc
  rcases hc with rfl | rfl | rfl | rfl | rfl | rfl
  · exact w_c0
  · exact w_c1
  · exact w_c2
  · exact w_c3
  · exact w_c4
  · exact w_c5
set_option maxRecDepth 65536 in
theorem w_t1 : (words1.take 24).all (fun c => isCode c || c.before args0 about1) = true := by decide +kernel
set_option maxRecDepth 65536 in
theorem w_t2 : (words1.drop 24).all (fun c => isCode c || c.before args0 about1) = true := by decide +kernel
theorem w_tables : (allAtoms (Jvm.Cond.code x code maxLocals ret :: tables_1)).before args0 about1 = true := by
  rw [allAtoms_all]
  show words1.all (fun c => c.before args0 about1) = true
  refine all_split ?_ w_codes
  rw [← List.take_append_drop 24 words1, List.all_append, w_t1, w_t2]
  rfl
set_option maxRecDepth 65536 in
theorem w_case : (Jvm.Cond.and given_1 narrow_1).before args0 about1 = true := by decide +kernel
theorem w_applies : (headSpec (Jvm.Cond.code x code maxLocals ret :: tables_1) room_1).applies x e0.platform about1 = true :=
  (Spec.applies_iff w_frames).mpr ⟨w_running, w_runnable, w_alone, w_named, w_hears, w_ripe, w_room, w_tables⟩
theorem atStart : AtStart classFile x code maxLocals ret World_1 tables_1 room_1 Calls_1 rest_1 Pre_1 launch0 p0 e0 about1 theMethod args0 below0 :=
  ⟨lists_1, trivial, launch0.admits_env _ _ _, launch0.least_env, fairChoices_fair.cas, fairChoices_fair.clock, w_frames, w_args, w_heap, w_applies, trivial, trivial, w_case⟩
end start1
theorem witness_1 : WitnessClaimed_1 := ⟨start1.p0, start1.e0, start1.about1, start1.theMethod, start1.args0, start1.below0, start1.atStart⟩
end Jvm.Pilot.@@N@@
