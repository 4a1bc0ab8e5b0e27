import JvmDerived
import JvmDerived.Pilot.@@N@@Statement
import JvmDerived.Pilot.@@N@@Code
set_option linter.unusedVariables false
set_option linter.unusedSimpArgs false
namespace Jvm.RoadKit
theorem own_add32 {a b : Int32} (h1 : -2147483648 ≤ a.toInt + b.toInt) (h2 : a.toInt + b.toInt < 2147483648) : (a + b).toInt = a.toInt + b.toInt := by
  rw [Int32.toInt_add]; exact Int.bmod_eq_of_le (by omega) (by omega)
theorem own_sub32 {a b : Int32} (h1 : -2147483648 ≤ a.toInt - b.toInt) (h2 : a.toInt - b.toInt < 2147483648) : (a - b).toInt = a.toInt - b.toInt := by
  rw [Int32.toInt_sub]; exact Int.bmod_eq_of_le (by omega) (by omega)
theorem own_mul32 {a b : Int32} (h1 : -2147483648 ≤ a.toInt * b.toInt) (h2 : a.toInt * b.toInt < 2147483648) : (a * b).toInt = a.toInt * b.toInt := by
  rw [Int32.toInt_mul]; exact Int.bmod_eq_of_le (by omega) (by omega)
theorem own_add64 {a b : Int64} (h1 : -9223372036854775808 ≤ a.toInt + b.toInt) (h2 : a.toInt + b.toInt < 9223372036854775808) : (a + b).toInt = a.toInt + b.toInt := by
  rw [Int64.toInt_add]; exact Int.bmod_eq_of_le (by omega) (by omega)
theorem own_sub64 {a b : Int64} (h1 : -9223372036854775808 ≤ a.toInt - b.toInt) (h2 : a.toInt - b.toInt < 9223372036854775808) : (a - b).toInt = a.toInt - b.toInt := by
  rw [Int64.toInt_sub]; exact Int.bmod_eq_of_le (by omega) (by omega)
theorem own_mul64 {a b : Int64} (h1 : -9223372036854775808 ≤ a.toInt * b.toInt) (h2 : a.toInt * b.toInt < 9223372036854775808) : (a * b).toInt = a.toInt * b.toInt := by
  rw [Int64.toInt_mul]; exact Int.bmod_eq_of_le (by omega) (by omega)
/-- a mask that isn't negative -/
theorem own_mask32 (x k : Int32) (hk : 0 ≤ k.toInt) : 0 ≤ (x &&& k).toInt ∧ (x &&& k).toInt ≤ k.toInt := by
  have hk' : k.toBitVec.toNat < 2 ^ 31 := by
    have := k.toBitVec.isLt
    have e : k.toInt = k.toBitVec.toInt := rfl
    rw [e, BitVec.toInt_eq_toNat_cond] at hk
    split at hk <;> omega
  have h1 : (x &&& k).toInt = (x.toBitVec &&& k.toBitVec).toInt := rfl
  have h2 : (x.toBitVec &&& k.toBitVec).toNat ≤ k.toBitVec.toNat := by rw [BitVec.toNat_and]; exact Nat.and_le_right
  have e : k.toInt = k.toBitVec.toInt := rfl
  rw [h1, e, BitVec.toInt_eq_toNat_of_lt (by omega), BitVec.toInt_eq_toNat_of_lt (by omega)]; omega
theorem own_mask64 (x k : Int64) (hk : 0 ≤ k.toInt) : 0 ≤ (x &&& k).toInt ∧ (x &&& k).toInt ≤ k.toInt := by
  have hk' : k.toBitVec.toNat < 2 ^ 63 := by
    have := k.toBitVec.isLt
    have e : k.toInt = k.toBitVec.toInt := rfl
    rw [e, BitVec.toInt_eq_toNat_cond] at hk
    split at hk <;> omega
  have h1 : (x &&& k).toInt = (x.toBitVec &&& k.toBitVec).toInt := rfl
  have h2 : (x.toBitVec &&& k.toBitVec).toNat ≤ k.toBitVec.toNat := by rw [BitVec.toNat_and]; exact Nat.and_le_right
  have e : k.toInt = k.toBitVec.toInt := rfl
  rw [h1, e, BitVec.toInt_eq_toNat_of_lt (by omega), BitVec.toInt_eq_toNat_of_lt (by omega)]; omega
end Jvm.RoadKit
namespace Jvm.RoadKit
open Sem ClassFile Op Lib Jvm.Stand Jvm.Free Jvm.LawKit
section Own
variable {p : Program} {l : Launch} {e : Env} {R : Room} {s : State} {m : MethodId} {args : Array Value} {below : List Frame} {meth : Method} {c : Code} {T : State} {locs : List Loc} {cells slots : Nat} {Z : State} {h h' : Heap} {a b : Addr} {ty : FieldType} {n : Nat} {f f' : Nat → Value} {sl : Nat} {v : Value} {ws : List Addr}
/-- an array of n places, place i holds f i -/
def ArF (Z : State) (h : Heap) (a : Addr) (ty : FieldType) (n : Nat) (f : Nat → Value) : Prop := ∃ c : Cell, Arr Z h a c ty ∧ c.slots.size = n ∧ n < 2 ^ 31 ∧ ∀ i, i < n → c.slots[i]? = some (f i)
theorem ArF.lt (F : ArF Z h a ty n f) : a < h.size := by obtain ⟨c, A, -⟩ := F; exact A.lt
theorem ArF.ext (F : ArF Z h a ty n f) (E : Ext h h') : ArF Z h' a ty n f := by obtain ⟨c, A, r⟩ := F; exact ⟨c, A.ext E, r⟩
theorem ArF.other (F : ArF Z h a ty n f) (W : Wr h h' b sl v) (q : a ≠ b) : ArF Z h' a ty n f := by obtain ⟨c, A, r⟩ := F; exact ⟨c, A.other W q, r⟩
theorem ArF.keep (F : ArF Z h a ty n f) (K : Keep h h' ws) (q : a ∉ ws) : ArF Z h' a ty n f := by obtain ⟨c, A, r⟩ := F; exact ⟨c, ⟨K.2.1 a c A.1 q, A.2⟩, r⟩
theorem ArF.congr (F : ArF Z h a ty n f) (q : ∀ i, i < n → f i = f' i) : ArF Z h a ty n f' := by obtain ⟨c, A, r1, r2, r3⟩ := F; exact ⟨c, A, r1, r2, fun i hi => by rw [← q i hi]; exact r3 i hi⟩
theorem ArF.new {k : ClassId} {z : Int32} {dv : Value} (A : Arr Z h a (newA k ty z) ty) (q : ¬ z < 0) (hn : z.toNatClampNeg = n) (hdv : defaultValue ty = dv := by rfl) : ArF Z h a ty n (fun _ => dv) := by
  subst hn hdv
  refine ⟨_, A, sz_new _ _ _, (back32 q).2, fun i hi => ?_⟩
  simp [newA, hi]
theorem own_clamp {j : Int32} {i : Nat} (hj : j.toInt = (i : Int)) : j.toNatClampNeg = i := by
  show j.toInt.toNat = i
  rw [hj]; rfl
theorem own_inb {c : Cell} {j : Int32} {i : Nat} (S : c.slots.size = n) (hj : j.toInt = (i : Int)) (hi : i < n) : ¬ (j < 0 ∨ c.slots.size ≤ j.toNatClampNeg) := by
  rw [own_clamp hj, S]
  rintro (q | q)
  · rw [Int32.lt_iff_toInt_lt, hj] at q
    have : (0 : Int32).toInt = 0 := by decide
    omega
  · omega
theorem ArF.setW {i : Nat} {c : Cell} (A : Arr Z h a c ty) (S : c.slots.size = n) (q3 : n < 2 ^ 31) (H : ∀ k, k < n → c.slots[k]? = some (f k)) (W : Wr h h' a i v) : ArF Z h' a ty n (fun q => if q = i then v else f q) := by
  refine ⟨_, A.same W, by rw [sz_set, S], q3, fun k hk => ?_⟩
  by_cases e : k = i
  · subst e; simp [Cell.setSlot, S, hk]
  · simp only [if_neg e, Cell.setSlot]
    rw [Array.getElem?_setIfInBounds_ne (Ne.symm e)]; exact H k hk
theorem ArF.stI (X : Stand p l e R s m args below meth c T locs cells slots) (hx : p.tables.exec = Jvm.exec) (hZ : Z.Warmed39 s.vm) (eT : T.heap = h) (F : ArF Z h a .int n f) {j x : Int32} {i : Nat} (hj : j.toInt = (i : Int)) (hi : i < n) {g : JFrame} (hg : g.method = m) {rest : List Value} (hs : g.stack = .int x :: .int j :: .ref a :: rest) (hd : decode c.code g.pc = .ok (.iastore, 1)) :
    ∃ T' h', Stand p l e R s m args below meth c T' (locs ++ [⟨a, i⟩]) cells slots ∧ T'.heap = h' ∧ Wr h h' a i (.int x) ∧ ArF Z h' a .int n (fun q => if q = i then .int x else f q) ∧ ∀ target, Steps p.tables e below (T'.setTop { g with pc := g.pc + 1, stack := rest }) target → Steps p.tables e below (T.setTop g) target := by
  obtain ⟨c, A, S, q3, H⟩ := F
  obtain ⟨T', h', X', e', W, st⟩ := Jvm.RoadKit.stI X hx hZ eT A (own_inb S hj hi) hg hs hd
  rw [own_clamp hj] at X' W
  exact ⟨T', h', X', e', W, ArF.setW A S q3 H W, st⟩
theorem ArF.stJ (X : Stand p l e R s m args below meth c T locs cells slots) (hx : p.tables.exec = Jvm.exec) (hZ : Z.Warmed39 s.vm) (eT : T.heap = h) (F : ArF Z h a .long n f) {j : Int32} {x : Int64} {i : Nat} (hj : j.toInt = (i : Int)) (hi : i < n) {g : JFrame} (hg : g.method = m) {rest : List Value} (hs : g.stack = .long x :: .int j :: .ref a :: rest) (hd : decode c.code g.pc = .ok (.lastore, 1)) :
    ∃ T' h', Stand p l e R s m args below meth c T' (locs ++ [⟨a, i⟩]) cells slots ∧ T'.heap = h' ∧ Wr h h' a i (.long x) ∧ ArF Z h' a .long n (fun q => if q = i then .long x else f q) ∧ ∀ target, Steps p.tables e below (T'.setTop { g with pc := g.pc + 1, stack := rest }) target → Steps p.tables e below (T.setTop g) target := by
  obtain ⟨c, A, S, q3, H⟩ := F
  obtain ⟨T', h', X', e', W, st⟩ := Jvm.RoadKit.stJ X hx hZ eT A (own_inb S hj hi) hg hs hd
  rw [own_clamp hj] at X' W
  exact ⟨T', h', X', e', W, ArF.setW A S q3 H W, st⟩
theorem ArF.stB (X : Stand p l e R s m args below meth c T locs cells slots) (hx : p.tables.exec = Jvm.exec) (hZ : Z.Warmed39 s.vm) (eT : T.heap = h) (F : ArF Z h a .byte n f) {j x : Int32} {i : Nat} (hj : j.toInt = (i : Int)) (hi : i < n) {g : JFrame} (hg : g.method = m) {rest : List Value} (hs : g.stack = .int x :: .int j :: .ref a :: rest) (hd : decode c.code g.pc = .ok (.bastore, 1)) :
    ∃ T' h', Stand p l e R s m args below meth c T' (locs ++ [⟨a, i⟩]) cells slots ∧ T'.heap = h' ∧ Wr h h' a i (.int (nar .byte x)) ∧ ArF Z h' a .byte n (fun q => if q = i then .int (nar .byte x) else f q) ∧ ∀ target, Steps p.tables e below (T'.setTop { g with pc := g.pc + 1, stack := rest }) target → Steps p.tables e below (T.setTop g) target := by
  obtain ⟨c, A, S, q3, H⟩ := F
  obtain ⟨T', h', X', e', W, st⟩ := Jvm.RoadKit.stB X hx hZ eT A (own_inb S hj hi) hg hs hd
  rw [own_clamp hj] at X' W
  exact ⟨T', h', X', e', W, ArF.setW A S q3 H W, st⟩
theorem ArF.stC (X : Stand p l e R s m args below meth c T locs cells slots) (hx : p.tables.exec = Jvm.exec) (hZ : Z.Warmed39 s.vm) (eT : T.heap = h) (F : ArF Z h a .char n f) {j x : Int32} {i : Nat} (hj : j.toInt = (i : Int)) (hi : i < n) {g : JFrame} (hg : g.method = m) {rest : List Value} (hs : g.stack = .int x :: .int j :: .ref a :: rest) (hd : decode c.code g.pc = .ok (.castore, 1)) :
    ∃ T' h', Stand p l e R s m args below meth c T' (locs ++ [⟨a, i⟩]) cells slots ∧ T'.heap = h' ∧ Wr h h' a i (.int (nar .char x)) ∧ ArF Z h' a .char n (fun q => if q = i then .int (nar .char x) else f q) ∧ ∀ target, Steps p.tables e below (T'.setTop { g with pc := g.pc + 1, stack := rest }) target → Steps p.tables e below (T.setTop g) target := by
  obtain ⟨c, A, S, q3, H⟩ := F
  obtain ⟨T', h', X', e', W, st⟩ := Jvm.RoadKit.stC X hx hZ eT A (own_inb S hj hi) hg hs hd
  rw [own_clamp hj] at X' W
  exact ⟨T', h', X', e', W, ArF.setW A S q3 H W, st⟩
theorem ArF.ldI (X : Stand p l e R s m args below meth c T locs cells slots) (hx : p.tables.exec = Jvm.exec) (hZ : Z.Warmed39 s.vm) (eT : T.heap = h) (F : ArF Z h a .int n f) {j : Int32} {i : Nat} (hj : j.toInt = (i : Int)) (hi : i < n) {v : Int32} (hv : f i = .int v) {g : JFrame} (hg : g.method = m) {rest : List Value} (hs : g.stack = .int j :: .ref a :: rest) (hd : decode c.code g.pc = .ok (.iaload, 1)) :
    ∀ target, Steps p.tables e below (T.setTop { g with pc := g.pc + 1, stack := .int v :: rest }) target → Steps p.tables e below (T.setTop g) target := by
  obtain ⟨c, A, S, q3, H⟩ := F
  exact X.iaload hx (by rw [eT]; exact A.1) (State.isArrayOf_alike hZ.alike A.2.1) A.2.2 (own_inb S hj hi) (by rw [own_clamp hj, ← hv]; exact H i hi) hg hs hd
theorem ArF.ldJ (X : Stand p l e R s m args below meth c T locs cells slots) (hx : p.tables.exec = Jvm.exec) (hZ : Z.Warmed39 s.vm) (eT : T.heap = h) (F : ArF Z h a .long n f) {j : Int32} {i : Nat} (hj : j.toInt = (i : Int)) (hi : i < n) {v : Int64} (hv : f i = .long v) {g : JFrame} (hg : g.method = m) {rest : List Value} (hs : g.stack = .int j :: .ref a :: rest) (hd : decode c.code g.pc = .ok (.laload, 1)) :
    ∀ target, Steps p.tables e below (T.setTop { g with pc := g.pc + 1, stack := .long v :: rest }) target → Steps p.tables e below (T.setTop g) target := by
  obtain ⟨c, A, S, q3, H⟩ := F
  exact X.laload hx (by rw [eT]; exact A.1) (State.isArrayOf_alike hZ.alike A.2.1) A.2.2 (own_inb S hj hi) (by rw [own_clamp hj, ← hv]; exact H i hi) hg hs hd
theorem ArF.ldB (X : Stand p l e R s m args below meth c T locs cells slots) (hx : p.tables.exec = Jvm.exec) (hZ : Z.Warmed39 s.vm) (eT : T.heap = h) (F : ArF Z h a .byte n f) {j : Int32} {i : Nat} (hj : j.toInt = (i : Int)) (hi : i < n) {v : Int32} (hv : f i = .int v) {g : JFrame} (hg : g.method = m) {rest : List Value} (hs : g.stack = .int j :: .ref a :: rest) (hd : decode c.code g.pc = .ok (.baload, 1)) :
    ∀ target, Steps p.tables e below (T.setTop { g with pc := g.pc + 1, stack := .int v :: rest }) target → Steps p.tables e below (T.setTop g) target := by
  obtain ⟨c, A, S, q3, H⟩ := F
  exact X.baloadBytes hx (by rw [eT]; exact A.1) (State.isArrayOf_alike hZ.alike A.2.1) A.2.2 (own_inb S hj hi) (by rw [own_clamp hj, ← hv]; exact H i hi) hg hs hd
theorem ArF.ldC (X : Stand p l e R s m args below meth c T locs cells slots) (hx : p.tables.exec = Jvm.exec) (hZ : Z.Warmed39 s.vm) (eT : T.heap = h) (F : ArF Z h a .char n f) {j : Int32} {i : Nat} (hj : j.toInt = (i : Int)) (hi : i < n) {v : Int32} (hv : f i = .int v) {g : JFrame} (hg : g.method = m) {rest : List Value} (hs : g.stack = .int j :: .ref a :: rest) (hd : decode c.code g.pc = .ok (.caload, 1)) :
    ∀ target, Steps p.tables e below (T.setTop { g with pc := g.pc + 1, stack := .int v :: rest }) target → Steps p.tables e below (T.setTop g) target := by
  obtain ⟨c, A, S, q3, H⟩ := F
  exact X.caload hx (by rw [eT]; exact A.1) (State.isArrayOf_alike hZ.alike A.2.1) A.2.2 (own_inb S hj hi) (by rw [own_clamp hj, ← hv]; exact H i hi) hg hs hd
theorem ArF.len (X : Stand p l e R s m args below meth c T locs cells slots) (hx : p.tables.exec = Jvm.exec) (hZ : Z.Warmed39 s.vm) (eT : T.heap = h) (F : ArF Z h a ty n f) {g : JFrame} (hg : g.method = m) {rest : List Value} (hs : g.stack = .ref a :: rest) (hd : decode c.code g.pc = .ok (.arraylength, 1)) :
    ∀ target, Steps p.tables e below (T.setTop { g with pc := g.pc + 1, stack := .int (Int32.ofNat n) :: rest }) target → Steps p.tables e below (T.setTop g) target := by
  obtain ⟨c, A, S, q3, H⟩ := F
  have q := X.arraylength hx (by rw [eT]; exact A.1) (State.isArrayOf_alike hZ.alike A.2.1) hg hs hd
  rw [S] at q
  exact q
theorem own_more (X : Stand p l e R s m args below meth c T locs cells slots) {k n : Nat} (h1 : cells ≤ k) (h2 : slots ≤ n) : Stand p l e R s m args below meth c T locs k n :=
  { X with same := X.same.mono h1 h2 }
theorem own_selP {Z s : State} {a0 args : Array Value} {y : MethodName} {k : Nat} (hZ : Z.Warmed39 s.vm) (wi : (Cond.instantiable y.cls k).before a0 Z = true) (wp : (Cond.privateMethod y).before a0 Z = true) (wm : (Cond.instanceMethod y).before a0 Z = true) (hy : y.cls ≠ "java/lang/invoke/MethodHandle" ∧ y.cls ≠ "java/lang/invoke/VarHandle") : (Cond.selects y.cls y y).before args s = true := by
  have wi' : (Cond.instantiable y.cls k).before args s = true := mvT hZ wi
  obtain ⟨c, q, h1, h2, -, h4, -⟩ := Cond.instantiable_spec wi'
  simp only [Bool.or_eq_false_iff] at h4
  exact Jvm.Stand.selects_self_of_private h1 h2 h4.1 (Cond.privateMethod_at (mvP hZ wp (args := args))) (mvT hZ wm) hy
end Own
end Jvm.RoadKit
namespace Jvm.Pilot.@@N@@
open Jvm Jvm.ClassFile Sem Op Lib Jvm.Free Jvm.Stand Jvm.LawKit Jvm.RoadKit Bundle Jvm.Pilot.@@N@@.Jvm.D
theorem d1_0 : decode method_2_code 0 = .ok (.iload_n 2, 1) := by decide +kernel
theorem d1_1 : decode method_2_code 1 = .ok (.ifCond .eq 9, 3) := by decide +kernel
theorem d1_4 : decode method_2_code 4 = .ok (.lload_n 0, 1) := by decide +kernel
theorem d1_5 : decode method_2_code 5 = .ok (.ldc2_w 7, 3) := by decide +kernel
theorem d1_8 : decode method_2_code 8 = .ok (.land, 1) := by decide +kernel
theorem d1_9 : decode method_2_code 9 = .ok (.lreturn, 1) := by decide +kernel
theorem d1_10 : decode method_2_code 10 = .ok (.lload_n 0, 1) := by decide +kernel
theorem d1_11 : decode method_2_code 11 = .ok (.ldc2_w 9, 3) := by decide +kernel
theorem d1_14 : decode method_2_code 14 = .ok (.land, 1) := by decide +kernel
theorem d1_15 : decode method_2_code 15 = .ok (.lreturn, 1) := by decide +kernel
theorem d2_0 : decode prog_15_method_1_code 0 = .ok (.aload_n 0, 1) := by decide +kernel
theorem d2_1 : decode prog_15_method_1_code 1 = .ok (.invokespecial 1, 3) := by decide +kernel
theorem d2_4 : decode prog_15_method_1_code 4 = .ok (.aload_n 0, 1) := by decide +kernel
theorem d2_5 : decode prog_15_method_1_code 5 = .ok (.ldc2_w 9, 3) := by decide +kernel
theorem d2_8 : decode prog_15_method_1_code 8 = .ok (.putfield 11, 3) := by decide +kernel
theorem d2_11 : decode prog_15_method_1_code 11 = .ok (.return_, 1) := by decide +kernel
theorem d4_0 : decode prog_15_method_4_code 0 = .ok (.aload_n 0, 1) := by decide +kernel
theorem d4_1 : decode prog_15_method_4_code 1 = .ok (.ldc2_w 9, 3) := by decide +kernel
theorem d4_4 : decode prog_15_method_4_code 4 = .ok (.ldc2_w 21, 3) := by decide +kernel
theorem d4_7 : decode prog_15_method_4_code 7 = .ok (.lload_n 1, 1) := by decide +kernel
theorem d4_8 : decode prog_15_method_4_code 8 = .ok (.lmul, 1) := by decide +kernel
theorem d4_9 : decode prog_15_method_4_code 9 = .ok (.invokestatic 23, 3) := by decide +kernel
theorem d4_12 : decode prog_15_method_4_code 12 = .ok (.putfield 11, 3) := by decide +kernel
theorem d4_15 : decode prog_15_method_4_code 15 = .ok (.return_, 1) := by decide +kernel
theorem d5_0 : decode jdk_29_method_66_code 0 = .ok (.lload_n 0, 1) := by decide +kernel
theorem d5_1 : decode jdk_29_method_66_code 1 = .ok (.lload_n 2, 1) := by decide +kernel
theorem d5_2 : decode jdk_29_method_66_code 2 = .ok (.lcmp, 1) := by decide +kernel
theorem d5_3 : decode jdk_29_method_66_code 3 = .ok (.ifCond .lt 7, 3) := by decide +kernel
theorem d5_6 : decode jdk_29_method_66_code 6 = .ok (.lload_n 0, 1) := by decide +kernel
theorem d5_7 : decode jdk_29_method_66_code 7 = .ok (.goto 4, 3) := by decide +kernel
theorem d5_10 : decode jdk_29_method_66_code 10 = .ok (.lload_n 2, 1) := by decide +kernel
theorem d5_11 : decode jdk_29_method_66_code 11 = .ok (.lreturn, 1) := by decide +kernel
theorem d6_0 : decode prog_15_method_3_code 0 = .ok (.lload_n 1, 1) := by decide +kernel
theorem d6_1 : decode prog_15_method_3_code 1 = .ok (.aload_n 0, 1) := by decide +kernel
theorem d6_2 : decode prog_15_method_3_code 2 = .ok (.getfield 11, 3) := by decide +kernel
theorem d6_5 : decode prog_15_method_3_code 5 = .ok (.lcmp, 1) := by decide +kernel
theorem d6_6 : decode prog_15_method_3_code 6 = .ok (.ifCond .lt 7, 3) := by decide +kernel
theorem d6_9 : decode prog_15_method_3_code 9 = .ok (.iconst 1, 1) := by decide +kernel
theorem d6_10 : decode prog_15_method_3_code 10 = .ok (.goto 4, 3) := by decide +kernel
theorem d6_13 : decode prog_15_method_3_code 13 = .ok (.iconst 0, 1) := by decide +kernel
theorem d6_14 : decode prog_15_method_3_code 14 = .ok (.ireturn, 1) := by decide +kernel
theorem pn_0 : plainName "com/example/portcullis/portcullis/service/Retention" = true := by first | (simp [plainName, overriddenIn]; done) | decide +kernel
theorem pn_1 : plainName "com/example/portcullis/portcullis/service/RetentionLookedPinLaw" = true := by first | (simp [plainName, overriddenIn]; done) | decide +kernel
theorem pd_0 : parseMethodDescriptor "(JJ)J" = some ⟨[.long, .long], some .long⟩ := by decide +kernel
theorem pd_1 : parseMethodDescriptor "(JZ)J" = some ⟨[.long, .boolean], some .long⟩ := by decide +kernel
theorem pd_2 : parseMethodDescriptor "()V" = some ⟨[], none⟩ := by decide +kernel
theorem pd_3 : parseMethodDescriptor "(J)V" = some ⟨[.long], none⟩ := by decide +kernel
theorem pd_4 : parseMethodDescriptor "(J)Z" = some ⟨[.long], some .boolean⟩ := by decide +kernel

def own_max (a b : Int64) : Int64 := if a < b then b else a
def own_thr (a : Int64) : Int64 := if (512 : Int64) < a then a + a else 1024
def own_due (q w : Int64) : Int32 := if q < w then 0 else 1
def own_lo (t : Int64) : Prop := 1024 ≤ t.toInt
theorem own_one_le : own_lo (1024 : Int64) := by unfold own_lo; decide
theorem own_i64 : (512 : Int64).toInt = 512 ∧ (1024 : Int64).toInt = 1024 ∧ (2 : Int64).toInt = 2 ∧ (1 : Int64).toInt = 1 ∧ (4611686018427387903 : Int64).toInt = 4611686018427387903 ∧ (2047 : Int64).toInt = 2047 := by decide
theorem own_max_thr (a : Int64) (h : 0 ≤ a.toInt ∧ a.toInt ≤ 4611686018427387903) : own_max 1024 (2 * a) = own_thr a := by
  obtain ⟨e1, e2, e3, -⟩ := own_i64
  have m : ((2 : Int64) * a).toInt = 2 * a.toInt := by rw [own_mul64] <;> rw [e3] <;> omega
  have m2 : (a + a).toInt = a.toInt + a.toInt := own_add64 (by omega) (by omega)
  unfold own_max own_thr
  by_cases q : (512 : Int64) < a
  · rw [if_pos q, if_pos]
    · apply Int64.toInt_inj.mp; rw [m, m2]; omega
    · rw [Int64.lt_iff_toInt_lt] at q ⊢; omega
  · rw [if_neg q, if_neg]
    rw [Int64.lt_iff_toInt_lt] at q ⊢; omega
theorem own_thr_le (a : Int64) (h : 0 ≤ a.toInt ∧ a.toInt ≤ 4611686018427387903) : own_lo (own_thr a) := by
  obtain ⟨e1, e2, e3, -⟩ := own_i64
  have m2 : (a + a).toInt = a.toInt + a.toInt := own_add64 (by omega) (by omega)
  unfold own_lo own_thr
  by_cases q : (512 : Int64) < a
  · rw [if_pos q, m2]
    rw [Int64.lt_iff_toInt_lt] at q; omega
  · rw [if_neg q]; omega
theorem own_due_at (t : Int64) : ¬ own_due t t = 0 := by
  unfold own_due; rw [if_neg Int64.lt_irrefl]; decide
theorem own_due_below (t : Int64) (h : own_lo t) : own_due (t - 1) t = 0 := by
  obtain ⟨e1, e2, e3, e4, -⟩ := own_i64
  unfold own_lo at h
  have m : (t - 1).toInt = t.toInt - 1 := by
    have := t.toInt_lt
    rw [own_sub64] <;> rw [e4] <;> omega
  unfold own_due
  rw [if_pos]
  rw [Int64.lt_iff_toInt_lt, m]; omega
theorem ef_rm2 (m : MethodId) (x0 : Addr) : entryFrame m #[(.ref x0)] 1 = mkF m 0 #[.val (.ref x0)] [] := by first | (simp [entryFrame, mkF, argsToLocals, Value.category]; done) | rfl
def Q_rm2 (Z : State) (a1 : Addr) (u : Value) (h0 : Heap) (n0 : Nat) (v : Option Value) (h : Heap) (L : List Loc) : Prop := v = none ∧ Fr n0 L ∧ Keep h0 h [a1] ∧ Fld Z h a1 "com/example/portcullis/portcullis/service/Retention" "lookAt" "J" (.long 1024)
set_option maxRecDepth 65536 in
set_option maxHeartbeats 40000000 in
theorem rm2 (l : Launch) (Z : State) (a0 : Array Value) (hw : ∀ d ∈ tables_1, d.before a0 Z = true) (ws : List Jvm.Cond) (a1 : Addr) (u : Value) (h0 : Heap) (n0 : Nat) (Z0 : n0 ≤ h0.size) (F1 : Exa Z h0 a1 "com/example/portcullis/portcullis/service/Retention") (F2 : Fld Z h0 a1 "com/example/portcullis/portcullis/service/Retention" "lookAt" "J" u) (g_a1 : n0 ≤ a1) :
    MetFree l (⟨"com/example/portcullis/portcullis/service/Retention", "<init>", "()V"⟩ : MethodName) (head1 (Jvm.Cond.code (⟨"com/example/portcullis/portcullis/service/Retention", "<init>", "()V"⟩ : MethodName) prog_15_method_1_code 1 none :: ws) ({ frames := 1, cells := 0, slots := 0, locals := 12 } : Room)) (fun a U => a = #[(.ref a1)] ∧ Z.Warmed39 U.vm ∧ U.heap = h0) (fun _ _ _ _ _ => True) (fun _ U o U' => ∃ v L, o = .returned v ∧ Q_rm2 Z a1 u h0 n0 v U'.heap L ∧ FrameEnd U o U' L ({ frames := 1, cells := 0, slots := 0, locals := 12 } : Room).cells ({ frames := 1, cells := 0, slots := 0, locals := 12 } : Room).slots) := by
  refine MetFree.of_bodySF (plainFor_of_name pn_0) hisR ?_
  intro p e s m args below meth c s₁ Bd hml0 hP hK
  obtain ⟨rfl, hZ, hh⟩ := hP
  have hx := Bd.exec
  have hby := Bd.bytes
  have hml : c.maxLocals = 1 := hml0
  have hown : s.vm.findClass "com/example/portcullis/portcullis/service/Retention" = some m.cls := findClass_of_methodNamed Bd.named
  have hnm := (name_of_methodNamed Bd.named Bd.method).1
  have X0 : Stand p l e ({ frames := 1, cells := 0, slots := 0, locals := 12 } : Room) s m #[(.ref a1)] below meth c s₁ [] 0 0 := Stand.of_body Bd
  have e0 : s₁.heap = h0 := by rw [← hh, Bd.state]; rfl
  have N0 := Fr.nil n0
  have pre0 : ∀ t, Steps p.tables e below (s₁.setTop (mkF m 0 #[.val (.ref a1)] [])) t → Steps p.tables e below (s₁.setTop (entryFrame m #[(.ref a1)] 1)) t := fun t k => castTop (ef_rm2 m a1) k
  have S3 : ∀ t, Steps p.tables e below (s₁.setTop (mkF m 1 #[.val (.ref a1)] [(.ref a1)])) t → Steps p.tables e below (s₁.setTop (mkF m 0 #[.val (.ref a1)] [])) t := by
    intro t kt
    show Steps p.tables e below (s₁.setTop (mkF m 0 #[.val (.ref a1)] [])) _
    refine XS.aloadN X0.here hx rfl (hb hby d2_0) rfl rfl ?_
    exact kt
  obtain ⟨T4, X4, e4, st4⟩ := initO X0 hx hZ hown (hw _ (List.mem_of_getElem? (i := 12) rfl)) (hw _ (List.mem_of_getElem? (i := 13) rfl)) (hw _ (List.mem_of_getElem? (i := 14) rfl)) e0 (g := (mkF m 1 #[.val (.ref a1)] [(.ref a1)])) rfl (by rw [hml]; rfl) rfl (hb hby d2_1) (by decide) (W := 0) (by show 2 * 0 + _ ≤ _; exact Nat.le_of_eq rfl) (by decide)
  have S5 : ∀ t, Steps p.tables e below (T4.setTop (mkF m 8 #[.val (.ref a1)] [(.long (1024 : Int64)), (.ref a1)])) t → Steps p.tables e below (T4.setTop (mkF m 4 #[.val (.ref a1)] [])) t := by
    intro t kt
    show Steps p.tables e below (T4.setTop (mkF m 4 #[.val (.ref a1)] [])) _
    refine XS.aloadN X4.here hx rfl (hb hby d2_4) rfl rfl ?_
    show Steps p.tables e below (T4.setTop (mkF m 5 #[.val (.ref a1)] [(.ref a1)])) _
    refine X4.ldc2Long hx hown (mvT hZ (hw _ (List.mem_of_getElem? (i := 15) rfl))) (g := (mkF m 5 #[.val (.ref a1)] [(.ref a1)])) rfl (hb hby d2_5) _ ?_
    exact kt
  obtain ⟨T6, h6, X6, e6, W6, st6⟩ := putF X4 hx hZ hown (host := "") (Or.inl (hw _ (List.mem_of_getElem? (i := 16) rfl))) Via.refl e4 F2 F1 (Or.inl (hw _ (List.mem_of_getElem? (i := 17) rfl))) (hw _ (List.mem_of_getElem? (i := 7) rfl)) (ty := .long) (by decide) rfl rfl (g := (mkF m 8 #[.val (.ref a1)] [(.long (1024 : Int64)), (.ref a1)])) rfl rfl (hb hby d2_8)
  have z7 : n0 ≤ h6.size := Nat.le_trans Z0 (Keep.of_wr W6).1
  have N8 := Fr.snoc X6 N0 g_a1
  have Fw6 := F2.same W6
  have C9 : ∀ t, Steps p.tables e below (T6.setTop (mkF m 11 #[.val (.ref a1)] [])) t → Steps p.tables e below (s₁.setTop (mkF m 0 #[.val (.ref a1)] [])) t := (fun t k => (S3 t (st4 t (S5 t (st6 t k)))))
  obtain ⟨fs, hr, hrun, hended, hW, hsame⟩ := X6.leave (v := none) (fun _ => rfl)
  refine ⟨_, _, pre0 _ (C9 _ ?_), hrun, hended, _, _, rfl, ?_, ⟨_, rfl⟩, hW, hsame.mono (by decide) (by decide)⟩
  · exact X6.returnOut hx Bd.returns (hb hby d2_11) hr
  · show Q_rm2 Z a1 u h0 n0 _ T6.heap _
    rw [e6]
    exact ⟨rfl, N8, ((Keep.refl h0 [a1]).wr W6 (Or.inl (List.mem_of_getElem? (i := 0) rfl))), Fw6⟩
theorem ef_rm5 (m : MethodId) (x0 : Int64) (x1 : Int64) : entryFrame m #[(.long x0), (.long x1)] 4 = mkF m 0 #[.val (.long x0), .second, .val (.long x1), .second] [] := by first | (simp [entryFrame, mkF, argsToLocals, Value.category]; done) | rfl
def Q_rm5 (Z : State) (q1 : Int64) (q2 : Int64) (h0 : Heap) (n0 : Nat) (v : Option Value) (h : Heap) (L : List Loc) : Prop := v = some (.long (own_max q1 q2)) ∧ Fr n0 L ∧ h = h0
set_option maxRecDepth 65536 in
set_option maxHeartbeats 40000000 in
theorem rm5 (l : Launch) (Z : State) (a0 : Array Value) (hw : ∀ d ∈ tables_1, d.before a0 Z = true) (ws : List Jvm.Cond) (q1 : Int64) (q2 : Int64) (h0 : Heap) (n0 : Nat) (Z0 : n0 ≤ h0.size)  :
    MetFree l (⟨"java/lang/Math", "max", "(JJ)J"⟩ : MethodName) (head1 (Jvm.Cond.code (⟨"java/lang/Math", "max", "(JJ)J"⟩ : MethodName) jdk_29_method_66_code 4 (some .long) :: ws) ({ frames := 0, cells := 0, slots := 0, locals := 0 } : Room)) (fun a U => a = #[(.long q1), (.long q2)] ∧ Z.Warmed39 U.vm ∧ U.heap = h0) (fun _ _ _ _ _ => True) (fun _ U o U' => ∃ v L, o = .returned v ∧ Q_rm5 Z q1 q2 h0 n0 v U'.heap L ∧ FrameEnd U o U' L ({ frames := 0, cells := 0, slots := 0, locals := 0 } : Room).cells ({ frames := 0, cells := 0, slots := 0, locals := 0 } : Room).slots) := by
  refine MetFree.of_bodySF (Jvm.Free.JP.mathPlain rfl (by decide +kernel)) hisR ?_
  intro p e s m args below meth c s₁ Bd hml0 hP hK
  obtain ⟨rfl, hZ, hh⟩ := hP
  have hx := Bd.exec
  have hby := Bd.bytes
  have hml : c.maxLocals = 4 := hml0
  have hown : s.vm.findClass "java/lang/Math" = some m.cls := findClass_of_methodNamed Bd.named
  have hnm := (name_of_methodNamed Bd.named Bd.method).1
  have X0 : Stand p l e ({ frames := 0, cells := 0, slots := 0, locals := 0 } : Room) s m #[(.long q1), (.long q2)] below meth c s₁ [] 0 0 := Stand.of_body Bd
  have e0 : s₁.heap = h0 := by rw [← hh, Bd.state]; rfl
  have N0 := Fr.nil n0
  have pre0 : ∀ t, Steps p.tables e below (s₁.setTop (mkF m 0 #[.val (.long q1), .second, .val (.long q2), .second] [])) t → Steps p.tables e below (s₁.setTop (entryFrame m #[(.long q1), (.long q2)] 4)) t := fun t k => castTop (ef_rm5 m q1 q2) k
  have S10 : ∀ t, Steps p.tables e below (s₁.setTop (mkF m 3 #[.val (.long q1), .second, .val (.long q2), .second] [(.int (lcmpW q1 q2))])) t → Steps p.tables e below (s₁.setTop (mkF m 0 #[.val (.long q1), .second, .val (.long q2), .second] [])) t := by
    intro t kt
    show Steps p.tables e below (s₁.setTop (mkF m 0 #[.val (.long q1), .second, .val (.long q2), .second] [])) _
    refine XS.lloadN X0.here hx rfl (hb hby d5_0) rfl ?_
    show Steps p.tables e below (s₁.setTop (mkF m 1 #[.val (.long q1), .second, .val (.long q2), .second] [(.long q1)])) _
    refine XS.lloadN X0.here hx rfl (hb hby d5_1) rfl ?_
    show Steps p.tables e below (s₁.setTop (mkF m 2 #[.val (.long q1), .second, .val (.long q2), .second] [(.long q2), (.long q1)])) _
    refine XS.lcmp X0.here hx rfl (hb hby d5_2) rfl ?_
    exact kt
  by_cases hc11 : q1 < q2
  · have S12 : ∀ t, Steps p.tables e below (s₁.setTop (mkF m 11 #[.val (.long q1), .second, .val (.long q2), .second] [(.long q2)])) t → Steps p.tables e below (s₁.setTop (mkF m 3 #[.val (.long q1), .second, .val (.long q2), .second] [(.int (lcmpW q1 q2))])) t := by
      intro t kt
      show Steps p.tables e below (s₁.setTop (mkF m 3 #[.val (.long q1), .second, .val (.long q2), .second] [(.int (lcmpW q1 q2))])) _
      refine XS.ifYes X0.here hx rfl (pc0 := 3) (pc' := 10) rfl (hb hby d5_3) rfl ((if0 _ _).trans (tlt ((lw_lt q1 q2).mpr hc11)).1) (by decide) (by decide) ?_
      show Steps p.tables e below (s₁.setTop (mkF m 10 #[.val (.long q1), .second, .val (.long q2), .second] [])) _
      refine XS.lloadN X0.here hx rfl (hb hby d5_10) rfl ?_
      exact kt
    have C13 : ∀ t, Steps p.tables e below (s₁.setTop (mkF m 11 #[.val (.long q1), .second, .val (.long q2), .second] [(.long q2)])) t → Steps p.tables e below (s₁.setTop (mkF m 0 #[.val (.long q1), .second, .val (.long q2), .second] [])) t := (fun t k => (S10 t (S12 t k)))
    obtain ⟨fs, hr, hrun, hended, hW, hsame⟩ := X0.leave (v := some (.long q2)) (fun h => by rw [Bd.returns] at h; cases h)
    refine ⟨_, _, pre0 _ (C13 _ ?_), hrun, hended, _, _, rfl, ?_, ⟨_, rfl⟩, hW, hsame.mono (by decide) (by decide)⟩
    · exact retOut X0 hx (t := .long) Bd.returns rfl (Or.inr (Or.inl ⟨rfl, rfl, _, rfl⟩)) (hb hby d5_11) hr
    · show Q_rm5 Z q1 q2 h0 n0 _ s₁.heap _
      rw [e0]
      exact ⟨by simp only [own_max, if_pos hc11], N0, rfl⟩
  · have S14 : ∀ t, Steps p.tables e below (s₁.setTop (mkF m 11 #[.val (.long q1), .second, .val (.long q2), .second] [(.long q1)])) t → Steps p.tables e below (s₁.setTop (mkF m 3 #[.val (.long q1), .second, .val (.long q2), .second] [(.int (lcmpW q1 q2))])) t := by
      intro t kt
      show Steps p.tables e below (s₁.setTop (mkF m 3 #[.val (.long q1), .second, .val (.long q2), .second] [(.int (lcmpW q1 q2))])) _
      refine XS.ifNo X0.here hx rfl (hb hby d5_3) rfl ((if0 _ _).trans (flt (fun q => hc11 ((lw_lt q1 q2).mp q))).1) ?_
      show Steps p.tables e below (s₁.setTop (mkF m 6 #[.val (.long q1), .second, .val (.long q2), .second] [])) _
      refine XS.lloadN X0.here hx rfl (hb hby d5_6) rfl ?_
      show Steps p.tables e below (s₁.setTop (mkF m 7 #[.val (.long q1), .second, .val (.long q2), .second] [(.long q1)])) _
      refine XS.goto X0.here hx rfl (pc0 := 7) (pc' := 11) rfl (hb hby d5_7) (by decide) (by decide) ?_
      exact kt
    have C15 : ∀ t, Steps p.tables e below (s₁.setTop (mkF m 11 #[.val (.long q1), .second, .val (.long q2), .second] [(.long q1)])) t → Steps p.tables e below (s₁.setTop (mkF m 0 #[.val (.long q1), .second, .val (.long q2), .second] [])) t := (fun t k => (S10 t (S14 t k)))
    obtain ⟨fs, hr, hrun, hended, hW, hsame⟩ := X0.leave (v := some (.long q1)) (fun h => by rw [Bd.returns] at h; cases h)
    refine ⟨_, _, pre0 _ (C15 _ ?_), hrun, hended, _, _, rfl, ?_, ⟨_, rfl⟩, hW, hsame.mono (by decide) (by decide)⟩
    · exact retOut X0 hx (t := .long) Bd.returns rfl (Or.inr (Or.inl ⟨rfl, rfl, _, rfl⟩)) (hb hby d5_11) hr
    · show Q_rm5 Z q1 q2 h0 n0 _ s₁.heap _
      rw [e0]
      exact ⟨by simp only [own_max, if_neg hc11], N0, rfl⟩
theorem ef_rm4 (m : MethodId) (x0 : Addr) (x1 : Int64) : entryFrame m #[(.ref x0), (.long x1)] 3 = mkF m 0 #[.val (.ref x0), .val (.long x1), .second] [] := by first | (simp [entryFrame, mkF, argsToLocals, Value.category]; done) | rfl
def Q_rm4 (Z : State) (a1 : Addr) (q1 : Int64) (u : Value) (h0 : Heap) (n0 : Nat) (v : Option Value) (h : Heap) (L : List Loc) : Prop := v = none ∧ Fr n0 L ∧ Keep h0 h [a1] ∧ Fld Z h a1 "com/example/portcullis/portcullis/service/Retention" "lookAt" "J" (.long (own_max 1024 (2 * q1)))
set_option maxRecDepth 65536 in
set_option maxHeartbeats 40000000 in
theorem rm4 (l : Launch) (Z : State) (a0 : Array Value) (hw : ∀ d ∈ tables_1, d.before a0 Z = true) (ws : List Jvm.Cond) (a1 : Addr) (q1 : Int64) (u : Value) (h0 : Heap) (n0 : Nat) (Z0 : n0 ≤ h0.size) (F16 : Exa Z h0 a1 "com/example/portcullis/portcullis/service/Retention") (F17 : Fld Z h0 a1 "com/example/portcullis/portcullis/service/Retention" "lookAt" "J" u) (g_a1 : n0 ≤ a1) :
    MetFree l (⟨"com/example/portcullis/portcullis/service/Retention", "looked", "(J)V"⟩ : MethodName) (head1 (Jvm.Cond.code (⟨"com/example/portcullis/portcullis/service/Retention", "looked", "(J)V"⟩ : MethodName) prog_15_method_4_code 3 none :: ws) ({ frames := 1, cells := 0, slots := 0, locals := 16 } : Room)) (fun a U => a = #[(.ref a1), (.long q1)] ∧ Z.Warmed39 U.vm ∧ U.heap = h0) (fun _ _ _ _ _ => True) (fun _ U o U' => ∃ v L, o = .returned v ∧ Q_rm4 Z a1 q1 u h0 n0 v U'.heap L ∧ FrameEnd U o U' L ({ frames := 1, cells := 0, slots := 0, locals := 16 } : Room).cells ({ frames := 1, cells := 0, slots := 0, locals := 16 } : Room).slots) := by
  refine MetFree.of_bodySF (plainFor_of_name pn_0) hisR ?_
  intro p e s m args below meth c s₁ Bd hml0 hP hK
  obtain ⟨rfl, hZ, hh⟩ := hP
  have hx := Bd.exec
  have hby := Bd.bytes
  have hml : c.maxLocals = 3 := hml0
  have hown : s.vm.findClass "com/example/portcullis/portcullis/service/Retention" = some m.cls := findClass_of_methodNamed Bd.named
  have hnm := (name_of_methodNamed Bd.named Bd.method).1
  have X0 : Stand p l e ({ frames := 1, cells := 0, slots := 0, locals := 16 } : Room) s m #[(.ref a1), (.long q1)] below meth c s₁ [] 0 0 := Stand.of_body Bd
  have e0 : s₁.heap = h0 := by rw [← hh, Bd.state]; rfl
  have N0 := Fr.nil n0
  have pre0 : ∀ t, Steps p.tables e below (s₁.setTop (mkF m 0 #[.val (.ref a1), .val (.long q1), .second] [])) t → Steps p.tables e below (s₁.setTop (entryFrame m #[(.ref a1), (.long q1)] 3)) t := fun t k => castTop (ef_rm4 m a1 q1) k
  have S18 : ∀ t, Steps p.tables e below (s₁.setTop (mkF m 9 #[.val (.ref a1), .val (.long q1), .second] [(.long ((2 : Int64) * q1)), (.long (1024 : Int64)), (.ref a1)])) t → Steps p.tables e below (s₁.setTop (mkF m 0 #[.val (.ref a1), .val (.long q1), .second] [])) t := by
    intro t kt
    show Steps p.tables e below (s₁.setTop (mkF m 0 #[.val (.ref a1), .val (.long q1), .second] [])) _
    refine XS.aloadN X0.here hx rfl (hb hby d4_0) rfl rfl ?_
    show Steps p.tables e below (s₁.setTop (mkF m 1 #[.val (.ref a1), .val (.long q1), .second] [(.ref a1)])) _
    refine X0.ldc2Long hx hown (mvT hZ (hw _ (List.mem_of_getElem? (i := 15) rfl))) (g := (mkF m 1 #[.val (.ref a1), .val (.long q1), .second] [(.ref a1)])) rfl (hb hby d4_1) _ ?_
    show Steps p.tables e below (s₁.setTop (mkF m 4 #[.val (.ref a1), .val (.long q1), .second] [(.long (1024 : Int64)), (.ref a1)])) _
    refine X0.ldc2Long hx hown (mvT hZ (hw _ (List.mem_of_getElem? (i := 23) rfl))) (g := (mkF m 4 #[.val (.ref a1), .val (.long q1), .second] [(.long (1024 : Int64)), (.ref a1)])) rfl (hb hby d4_4) _ ?_
    show Steps p.tables e below (s₁.setTop (mkF m 7 #[.val (.ref a1), .val (.long q1), .second] [(.long (2 : Int64)), (.long (1024 : Int64)), (.ref a1)])) _
    refine XS.lloadN X0.here hx rfl (hb hby d4_7) rfl ?_
    show Steps p.tables e below (s₁.setTop (mkF m 8 #[.val (.ref a1), .val (.long q1), .second] [(.long q1), (.long (2 : Int64)), (.long (1024 : Int64)), (.ref a1)])) _
    refine XS.lmul X0.here hx rfl (hb hby d4_8) rfl ?_
    exact kt
  obtain ⟨_, _, ⟨T19, L19, k19, n19⟩, -, X19, ⟨Lc19, hQ19, l19, y19, z19⟩, st19⟩ := Jvm.LawKit.callS X0 hx (y := (⟨"java/lang/Math", "max", "(JJ)J"⟩ : MethodName)) hown (mvT hZ (hw _ (List.mem_of_getElem? (i := 24) rfl))) (mvT hZ (hw _ (List.mem_of_getElem? (i := 25) rfl))) (mvT hZ (hw _ (List.mem_of_getElem? (i := 26) rfl))) (mvT hZ (hw _ (List.mem_of_getElem? (i := 27) rfl))) (by decide) (backOf (W := 1) (rm5 l Z a0 hw [] (1024 : Int64) ((2 : Int64) * q1) h0 n0 Z0 ) hZ (hw _ (List.mem_of_getElem? (i := 27) rfl)) (hw _ (List.mem_of_getElem? (i := 26) rfl)) (by decide) (by decide)) (g := (mkF m 9 #[.val (.ref a1), .val (.long q1), .second] [(.long ((2 : Int64) * q1)), (.long (1024 : Int64)), (.ref a1)])) rfl (by rw [hml]; rfl) (argsL := [(.long (1024 : Int64)), (.long ((2 : Int64) * q1))]) (rest := [(.ref a1)]) (lenOf pd_0 rfl) rfl (by show 2 * 0 + _ ≤ _; exact Nat.le_of_eq rfl) (hb hby d4_9) (fun _ _ => ⟨rfl, e0, (by decide : 0 + 0 ≤ _), (by decide : 0 + 0 ≤ _)⟩)
  dsimp only [Pt.U, Pt.locs, Pt.cells, Pt.slots] at X19 l19 y19 z19 st19 hQ19
  subst l19 y19 z19
  obtain ⟨rfl, N19q, e19⟩ := hQ19
  have N19 := Fr.app N0 N19q
  obtain ⟨T20, h20, X20, e20, W20, st20⟩ := putF X19 hx hZ hown (host := "") (Or.inl (hw _ (List.mem_of_getElem? (i := 16) rfl))) Via.refl e19 F17 F16 (Or.inl (hw _ (List.mem_of_getElem? (i := 17) rfl))) (hw _ (List.mem_of_getElem? (i := 7) rfl)) (ty := .long) (by decide) rfl rfl (g := (mkF m 12 #[.val (.ref a1), .val (.long q1), .second] [(.long (own_max (1024 : Int64) ((2 : Int64) * q1))), (.ref a1)])) rfl rfl (hb hby d4_12)
  have z21 : n0 ≤ h20.size := Nat.le_trans Z0 (Keep.of_wr W20).1
  have N22 := Fr.snoc X20 N19 g_a1
  have Fw20 := F17.same W20
  have C23 : ∀ t, Steps p.tables e below (T20.setTop (mkF m 15 #[.val (.ref a1), .val (.long q1), .second] [])) t → Steps p.tables e below (s₁.setTop (mkF m 0 #[.val (.ref a1), .val (.long q1), .second] [])) t := (fun t k => (S18 t (st19 t (st20 t k))))
  obtain ⟨fs, hr, hrun, hended, hW, hsame⟩ := X20.leave (v := none) (fun _ => rfl)
  refine ⟨_, _, pre0 _ (C23 _ ?_), hrun, hended, _, _, rfl, ?_, ⟨_, rfl⟩, hW, hsame.mono (by decide) (by decide)⟩
  · exact X20.returnOut hx Bd.returns (hb hby d4_15) hr
  · show Q_rm4 Z a1 q1 u h0 n0 _ T20.heap _
    rw [e20]
    exact ⟨rfl, N22, ((Keep.refl h0 [a1]).wr W20 (Or.inl (List.mem_of_getElem? (i := 0) rfl))), Fw20⟩
theorem ef_rm6 (m : MethodId) (x0 : Addr) (x1 : Int64) : entryFrame m #[(.ref x0), (.long x1)] 3 = mkF m 0 #[.val (.ref x0), .val (.long x1), .second] [] := by first | (simp [entryFrame, mkF, argsToLocals, Value.category]; done) | rfl
def Q_rm6 (Z : State) (a1 : Addr) (q1 : Int64) (w1 : Int64) (h0 : Heap) (n0 : Nat) (v : Option Value) (h : Heap) (L : List Loc) : Prop := v = some (.int (own_due q1 w1)) ∧ Fr n0 L ∧ h = h0
set_option maxRecDepth 65536 in
set_option maxHeartbeats 40000000 in
theorem rm6 (l : Launch) (Z : State) (a0 : Array Value) (hw : ∀ d ∈ tables_1, d.before a0 Z = true) (ws : List Jvm.Cond) (a1 : Addr) (q1 : Int64) (w1 : Int64) (h0 : Heap) (n0 : Nat) (Z0 : n0 ≤ h0.size) (F24 : Fld Z h0 a1 "com/example/portcullis/portcullis/service/Retention" "lookAt" "J" (.long w1)) :
    MetFree l (⟨"com/example/portcullis/portcullis/service/Retention", "due", "(J)Z"⟩ : MethodName) (head1 (Jvm.Cond.code (⟨"com/example/portcullis/portcullis/service/Retention", "due", "(J)Z"⟩ : MethodName) prog_15_method_3_code 3 (some .boolean) :: ws) ({ frames := 0, cells := 0, slots := 0, locals := 0 } : Room)) (fun a U => a = #[(.ref a1), (.long q1)] ∧ Z.Warmed39 U.vm ∧ U.heap = h0) (fun _ _ _ _ _ => True) (fun _ U o U' => ∃ v L, o = .returned v ∧ Q_rm6 Z a1 q1 w1 h0 n0 v U'.heap L ∧ FrameEnd U o U' L ({ frames := 0, cells := 0, slots := 0, locals := 0 } : Room).cells ({ frames := 0, cells := 0, slots := 0, locals := 0 } : Room).slots) := by
  refine MetFree.of_bodySF (plainFor_of_name pn_0) hisR ?_
  intro p e s m args below meth c s₁ Bd hml0 hP hK
  obtain ⟨rfl, hZ, hh⟩ := hP
  have hx := Bd.exec
  have hby := Bd.bytes
  have hml : c.maxLocals = 3 := hml0
  have hown : s.vm.findClass "com/example/portcullis/portcullis/service/Retention" = some m.cls := findClass_of_methodNamed Bd.named
  have hnm := (name_of_methodNamed Bd.named Bd.method).1
  have X0 : Stand p l e ({ frames := 0, cells := 0, slots := 0, locals := 0 } : Room) s m #[(.ref a1), (.long q1)] below meth c s₁ [] 0 0 := Stand.of_body Bd
  have e0 : s₁.heap = h0 := by rw [← hh, Bd.state]; rfl
  have N0 := Fr.nil n0
  have pre0 : ∀ t, Steps p.tables e below (s₁.setTop (mkF m 0 #[.val (.ref a1), .val (.long q1), .second] [])) t → Steps p.tables e below (s₁.setTop (entryFrame m #[(.ref a1), (.long q1)] 3)) t := fun t k => castTop (ef_rm6 m a1 q1) k
  have S25 : ∀ t, Steps p.tables e below (s₁.setTop (mkF m 2 #[.val (.ref a1), .val (.long q1), .second] [(.ref a1), (.long q1)])) t → Steps p.tables e below (s₁.setTop (mkF m 0 #[.val (.ref a1), .val (.long q1), .second] [])) t := by
    intro t kt
    show Steps p.tables e below (s₁.setTop (mkF m 0 #[.val (.ref a1), .val (.long q1), .second] [])) _
    refine XS.lloadN X0.here hx rfl (hb hby d6_0) rfl ?_
    show Steps p.tables e below (s₁.setTop (mkF m 1 #[.val (.ref a1), .val (.long q1), .second] [(.long q1)])) _
    refine XS.aloadN X0.here hx rfl (hb hby d6_1) rfl rfl ?_
    exact kt
  obtain ⟨T26, X26, e26, st26⟩ := getF X0 hx hZ hown (host := "") (Or.inl (hw _ (List.mem_of_getElem? (i := 16) rfl))) Via.refl e0 F24 (g := (mkF m 2 #[.val (.ref a1), .val (.long q1), .second] [(.ref a1), (.long q1)])) rfl rfl (hb hby d6_2)
  have S27 : ∀ t, Steps p.tables e below (T26.setTop (mkF m 6 #[.val (.ref a1), .val (.long q1), .second] [(.int (lcmpW q1 w1))])) t → Steps p.tables e below (T26.setTop (mkF m 5 #[.val (.ref a1), .val (.long q1), .second] [(.long w1), (.long q1)])) t := by
    intro t kt
    show Steps p.tables e below (T26.setTop (mkF m 5 #[.val (.ref a1), .val (.long q1), .second] [(.long w1), (.long q1)])) _
    refine XS.lcmp X26.here hx rfl (hb hby d6_5) rfl ?_
    exact kt
  by_cases hc28 : q1 < w1
  · have S29 : ∀ t, Steps p.tables e below (T26.setTop (mkF m 14 #[.val (.ref a1), .val (.long q1), .second] [(.int (0 : Int32))])) t → Steps p.tables e below (T26.setTop (mkF m 6 #[.val (.ref a1), .val (.long q1), .second] [(.int (lcmpW q1 w1))])) t := by
      intro t kt
      show Steps p.tables e below (T26.setTop (mkF m 6 #[.val (.ref a1), .val (.long q1), .second] [(.int (lcmpW q1 w1))])) _
      refine XS.ifYes X26.here hx rfl (pc0 := 6) (pc' := 13) rfl (hb hby d6_6) rfl ((if0 _ _).trans (tlt ((lw_lt q1 w1).mpr hc28)).1) (by decide) (by decide) ?_
      show Steps p.tables e below (T26.setTop (mkF m 13 #[.val (.ref a1), .val (.long q1), .second] [])) _
      refine XS.iconst X26.here hx rfl (hb hby d6_13) ?_
      exact kt
    have C30 : ∀ t, Steps p.tables e below (T26.setTop (mkF m 14 #[.val (.ref a1), .val (.long q1), .second] [(.int (0 : Int32))])) t → Steps p.tables e below (s₁.setTop (mkF m 0 #[.val (.ref a1), .val (.long q1), .second] [])) t := (fun t k => (S25 t (st26 t (S27 t (S29 t k)))))
    obtain ⟨fs, hr, hrun, hended, hW, hsame⟩ := X26.leave (v := some (.int (0 : Int32))) (fun h => by rw [Bd.returns] at h; cases h)
    refine ⟨_, _, pre0 _ (C30 _ ?_), hrun, hended, _, _, rfl, ?_, ⟨_, rfl⟩, hW, hsame.mono (by decide) (by decide)⟩
    · exact retN X26 hx (t := .boolean) Bd.returns (by simp) (hb hby d6_14) hr
    · show Q_rm6 Z a1 q1 w1 h0 n0 _ T26.heap _
      rw [e26]
      exact ⟨by simp only [own_due, if_pos hc28] <;> rfl, N0, rfl⟩
  · have S31 : ∀ t, Steps p.tables e below (T26.setTop (mkF m 14 #[.val (.ref a1), .val (.long q1), .second] [(.int (1 : Int32))])) t → Steps p.tables e below (T26.setTop (mkF m 6 #[.val (.ref a1), .val (.long q1), .second] [(.int (lcmpW q1 w1))])) t := by
      intro t kt
      show Steps p.tables e below (T26.setTop (mkF m 6 #[.val (.ref a1), .val (.long q1), .second] [(.int (lcmpW q1 w1))])) _
      refine XS.ifNo X26.here hx rfl (hb hby d6_6) rfl ((if0 _ _).trans (flt (fun q => hc28 ((lw_lt q1 w1).mp q))).1) ?_
      show Steps p.tables e below (T26.setTop (mkF m 9 #[.val (.ref a1), .val (.long q1), .second] [])) _
      refine XS.iconst X26.here hx rfl (hb hby d6_9) ?_
      show Steps p.tables e below (T26.setTop (mkF m 10 #[.val (.ref a1), .val (.long q1), .second] [(.int (1 : Int32))])) _
      refine XS.goto X26.here hx rfl (pc0 := 10) (pc' := 14) rfl (hb hby d6_10) (by decide) (by decide) ?_
      exact kt
    have C32 : ∀ t, Steps p.tables e below (T26.setTop (mkF m 14 #[.val (.ref a1), .val (.long q1), .second] [(.int (1 : Int32))])) t → Steps p.tables e below (s₁.setTop (mkF m 0 #[.val (.ref a1), .val (.long q1), .second] [])) t := (fun t k => (S25 t (st26 t (S27 t (S31 t k)))))
    obtain ⟨fs, hr, hrun, hended, hW, hsame⟩ := X26.leave (v := some (.int (1 : Int32))) (fun h => by rw [Bd.returns] at h; cases h)
    refine ⟨_, _, pre0 _ (C32 _ ?_), hrun, hended, _, _, rfl, ?_, ⟨_, rfl⟩, hW, hsame.mono (by decide) (by decide)⟩
    · exact retN X26 hx (t := .boolean) Bd.returns (by simp) (hb hby d6_14) hr
    · show Q_rm6 Z a1 q1 w1 h0 n0 _ T26.heap _
      rw [e26]
      exact ⟨by simp only [own_due, if_neg hc28] <;> rfl, N0, rfl⟩

def own_pick (q : Int64) (s : Int32) : Int64 := if s = 0 then q &&& (4611686018427387903 : Int64) else q &&& (2047 : Int64)
theorem own_pick_in (q : Int64) (s : Int32) : 0 ≤ (own_pick q s).toInt ∧ (own_pick q s).toInt ≤ 4611686018427387903 := by
  obtain ⟨-, -, -, -, e5, e6⟩ := own_i64
  have h1 := own_mask64 q 4611686018427387903 (by decide)
  have h2 := own_mask64 q 2047 (by decide)
  unfold own_pick
  split <;> omega
theorem ef_rm1 (m : MethodId) (x0 : Int64) (x1 : Int32) : entryFrame m #[(.long x0), (.int x1)] 3 = mkF m 0 #[.val (.long x0), .second, .val (.int x1)] [] := by first | (simp [entryFrame, mkF, argsToLocals, Value.category]; done) | rfl
def Q_rm1 (Z : State) (q1 : Int64) (s1 : Int32) (h0 : Heap) (n0 : Nat) (v : Option Value) (h : Heap) (L : List Loc) : Prop := v = some (.long (own_pick q1 s1)) ∧ Fr n0 L ∧ h = h0
set_option maxRecDepth 65536 in
set_option maxHeartbeats 40000000 in
theorem rm1 (l : Launch) (Z : State) (a0 : Array Value) (hw : ∀ d ∈ tables_1, d.before a0 Z = true) (ws : List Jvm.Cond) (q1 : Int64) (s1 : Int32) (h0 : Heap) (n0 : Nat) (Z0 : n0 ≤ h0.size)  :
    MetFree l (⟨"com/example/portcullis/portcullis/service/RetentionLookedPinLaw", "pick", "(JZ)J"⟩ : MethodName) (head1 (Jvm.Cond.code (⟨"com/example/portcullis/portcullis/service/RetentionLookedPinLaw", "pick", "(JZ)J"⟩ : MethodName) method_2_code 3 (some .long) :: ws) ({ frames := 0, cells := 0, slots := 0, locals := 0 } : Room)) (fun a U => a = #[(.long q1), (.int s1)] ∧ Z.Warmed39 U.vm ∧ U.heap = h0) (fun _ _ _ _ _ => True) (fun _ U o U' => ∃ v L, o = .returned v ∧ Q_rm1 Z q1 s1 h0 n0 v U'.heap L ∧ FrameEnd U o U' L ({ frames := 0, cells := 0, slots := 0, locals := 0 } : Room).cells ({ frames := 0, cells := 0, slots := 0, locals := 0 } : Room).slots) := by
  refine MetFree.of_bodySF (plainFor_of_name pn_1) hisR ?_
  intro p e s m args below meth c s₁ Bd hml0 hP hK
  obtain ⟨rfl, hZ, hh⟩ := hP
  have hx := Bd.exec
  have hby := Bd.bytes
  have hml : c.maxLocals = 3 := hml0
  have hown : s.vm.findClass "com/example/portcullis/portcullis/service/RetentionLookedPinLaw" = some m.cls := findClass_of_methodNamed Bd.named
  have hnm := (name_of_methodNamed Bd.named Bd.method).1
  have X0 : Stand p l e ({ frames := 0, cells := 0, slots := 0, locals := 0 } : Room) s m #[(.long q1), (.int s1)] below meth c s₁ [] 0 0 := Stand.of_body Bd
  have e0 : s₁.heap = h0 := by rw [← hh, Bd.state]; rfl
  have N0 := Fr.nil n0
  have pre0 : ∀ t, Steps p.tables e below (s₁.setTop (mkF m 0 #[.val (.long q1), .second, .val (.int s1)] [])) t → Steps p.tables e below (s₁.setTop (entryFrame m #[(.long q1), (.int s1)] 3)) t := fun t k => castTop (ef_rm1 m q1 s1) k
  have S33 : ∀ t, Steps p.tables e below (s₁.setTop (mkF m 1 #[.val (.long q1), .second, .val (.int s1)] [(.int s1)])) t → Steps p.tables e below (s₁.setTop (mkF m 0 #[.val (.long q1), .second, .val (.int s1)] [])) t := by
    intro t kt
    show Steps p.tables e below (s₁.setTop (mkF m 0 #[.val (.long q1), .second, .val (.int s1)] [])) _
    refine XS.iloadN X0.here hx rfl (hb hby d1_0) rfl ?_
    exact kt
  by_cases hc34 : s1 = (0 : Int32)
  · have S35 : ∀ t, Steps p.tables e below (s₁.setTop (mkF m 15 #[.val (.long q1), .second, .val (.int s1)] [(.long (q1 &&& (4611686018427387903 : Int64)))])) t → Steps p.tables e below (s₁.setTop (mkF m 1 #[.val (.long q1), .second, .val (.int s1)] [(.int s1)])) t := by
      intro t kt
      show Steps p.tables e below (s₁.setTop (mkF m 1 #[.val (.long q1), .second, .val (.int s1)] [(.int s1)])) _
      refine XS.ifYes X0.here hx rfl (pc0 := 1) (pc' := 10) rfl (hb hby d1_1) rfl ((if0 _ _).trans (teq hc34).1) (by decide) (by decide) ?_
      show Steps p.tables e below (s₁.setTop (mkF m 10 #[.val (.long q1), .second, .val (.int s1)] [])) _
      refine XS.lloadN X0.here hx rfl (hb hby d1_10) rfl ?_
      show Steps p.tables e below (s₁.setTop (mkF m 11 #[.val (.long q1), .second, .val (.int s1)] [(.long q1)])) _
      refine X0.ldc2Long hx hown (mvT hZ (hw _ (List.mem_of_getElem? (i := 4) rfl))) (g := (mkF m 11 #[.val (.long q1), .second, .val (.int s1)] [(.long q1)])) rfl (hb hby d1_11) _ ?_
      show Steps p.tables e below (s₁.setTop (mkF m 14 #[.val (.long q1), .second, .val (.int s1)] [(.long (4611686018427387903 : Int64)), (.long q1)])) _
      refine XS.land X0.here hx rfl (hb hby d1_14) rfl ?_
      exact kt
    have C36 : ∀ t, Steps p.tables e below (s₁.setTop (mkF m 15 #[.val (.long q1), .second, .val (.int s1)] [(.long (q1 &&& (4611686018427387903 : Int64)))])) t → Steps p.tables e below (s₁.setTop (mkF m 0 #[.val (.long q1), .second, .val (.int s1)] [])) t := (fun t k => (S33 t (S35 t k)))
    obtain ⟨fs, hr, hrun, hended, hW, hsame⟩ := X0.leave (v := some (.long (q1 &&& (4611686018427387903 : Int64)))) (fun h => by rw [Bd.returns] at h; cases h)
    refine ⟨_, _, pre0 _ (C36 _ ?_), hrun, hended, _, _, rfl, ?_, ⟨_, rfl⟩, hW, hsame.mono (by decide) (by decide)⟩
    · exact retOut X0 hx (t := .long) Bd.returns rfl (Or.inr (Or.inl ⟨rfl, rfl, _, rfl⟩)) (hb hby d1_15) hr
    · show Q_rm1 Z q1 s1 h0 n0 _ s₁.heap _
      rw [e0]
      exact ⟨by simp only [own_pick, if_pos hc34], N0, rfl⟩
  · have S37 : ∀ t, Steps p.tables e below (s₁.setTop (mkF m 9 #[.val (.long q1), .second, .val (.int s1)] [(.long (q1 &&& (2047 : Int64)))])) t → Steps p.tables e below (s₁.setTop (mkF m 1 #[.val (.long q1), .second, .val (.int s1)] [(.int s1)])) t := by
      intro t kt
      show Steps p.tables e below (s₁.setTop (mkF m 1 #[.val (.long q1), .second, .val (.int s1)] [(.int s1)])) _
      refine XS.ifNo X0.here hx rfl (hb hby d1_1) rfl ((if0 _ _).trans (feq hc34).1) ?_
      show Steps p.tables e below (s₁.setTop (mkF m 4 #[.val (.long q1), .second, .val (.int s1)] [])) _
      refine XS.lloadN X0.here hx rfl (hb hby d1_4) rfl ?_
      show Steps p.tables e below (s₁.setTop (mkF m 5 #[.val (.long q1), .second, .val (.int s1)] [(.long q1)])) _
      refine X0.ldc2Long hx hown (mvT hZ (hw _ (List.mem_of_getElem? (i := 5) rfl))) (g := (mkF m 5 #[.val (.long q1), .second, .val (.int s1)] [(.long q1)])) rfl (hb hby d1_5) _ ?_
      show Steps p.tables e below (s₁.setTop (mkF m 8 #[.val (.long q1), .second, .val (.int s1)] [(.long (2047 : Int64)), (.long q1)])) _
      refine XS.land X0.here hx rfl (hb hby d1_8) rfl ?_
      exact kt
    have C38 : ∀ t, Steps p.tables e below (s₁.setTop (mkF m 9 #[.val (.long q1), .second, .val (.int s1)] [(.long (q1 &&& (2047 : Int64)))])) t → Steps p.tables e below (s₁.setTop (mkF m 0 #[.val (.long q1), .second, .val (.int s1)] [])) t := (fun t k => (S33 t (S37 t k)))
    obtain ⟨fs, hr, hrun, hended, hW, hsame⟩ := X0.leave (v := some (.long (q1 &&& (2047 : Int64)))) (fun h => by rw [Bd.returns] at h; cases h)
    refine ⟨_, _, pre0 _ (C38 _ ?_), hrun, hended, _, _, rfl, ?_, ⟨_, rfl⟩, hW, hsame.mono (by decide) (by decide)⟩
    · exact retOut X0 hx (t := .long) Bd.returns rfl (Or.inr (Or.inl ⟨rfl, rfl, _, rfl⟩)) (hb hby d1_9) hr
    · show Q_rm1 Z q1 s1 h0 n0 _ s₁.heap _
      rw [e0]
      exact ⟨by simp only [own_pick, if_neg hc34], N0, rfl⟩
theorem ef_rm0 (m : MethodId) (x0 : Int64) (x1 : Int64) (x2 : Int64) (x3 : Int32) : entryFrame m #[(.long x0), (.long x1), (.long x2), (.int x3)] maxLocals = mkF m 0 #[.val (.long x0), .second, .val (.long x1), .second, .val (.long x2), .second, .val (.int x3), .unset, .unset, .unset, .unset, .unset, .unset, .unset, .unset, .unset, .unset] [] := by first | (simp [entryFrame, mkF, argsToLocals, Value.category, maxLocals]; done) | rfl
def Q_rm0 (Z : State) (a1 : Int64) (b1 : Int64) (hd : Int64) (md : Int32) (h0 : Heap) (n0 : Nat) (v : Option Value) (h : Heap) (L : List Loc) : Prop := v = some (.int 1) ∧ Fr n0 L
set_option maxRecDepth 65536 in
set_option maxHeartbeats 40000000 in
theorem rm0 (l : Launch) (Z : State) (a0 : Array Value) (hw : ∀ d ∈ tables_1, d.before a0 Z = true) (ws : List Jvm.Cond) (a1 : Int64) (b1 : Int64) (hd : Int64) (md : Int32) (h0 : Heap) (n0 : Nat) (Z0 : n0 ≤ h0.size)  :
    MetFree l x (head1 (Jvm.Cond.code x code maxLocals ret :: ws) room_1) (fun a U => a = #[(.long a1), (.long b1), (.long hd), (.int md)] ∧ Z.Warmed39 U.vm ∧ U.heap = h0) (fun _ _ _ _ _ => True) (fun _ U o U' => ∃ v L, o = .returned v ∧ Q_rm0 Z a1 b1 hd md h0 n0 v U'.heap L ∧ FrameEnd U o U' L room_1.cells room_1.slots) := by
  refine MetFree.of_bodySF (plainFor_of_name pn_1) hisR ?_
  intro p e s m args below meth c s₁ Bd hml0 hP hK
  obtain ⟨rfl, hZ, hh⟩ := hP
  have hx := Bd.exec
  have hby := Bd.bytes
  have hml : c.maxLocals = 17 := hml0
  have hown : s.vm.findClass "com/example/portcullis/portcullis/service/RetentionLookedPinLaw" = some m.cls := findClass_of_methodNamed Bd.named
  have hnm := (name_of_methodNamed Bd.named Bd.method).1
  have X0 : Stand p l e room_1 s m #[(.long a1), (.long b1), (.long hd), (.int md)] below meth c s₁ [] 0 0 := Stand.of_body Bd
  have e0 : s₁.heap = h0 := by rw [← hh, Bd.state]; rfl
  have N0 := Fr.nil n0
  have pre0 : ∀ t, Steps p.tables e below (s₁.setTop (mkF m 0 #[.val (.long a1), .second, .val (.long b1), .second, .val (.long hd), .second, .val (.int md), .unset, .unset, .unset, .unset, .unset, .unset, .unset, .unset, .unset, .unset] [])) t → Steps p.tables e below (s₁.setTop (entryFrame m #[(.long a1), (.long b1), (.long hd), (.int md)] maxLocals)) t := fun t k => castTop (ef_rm0 m a1 b1 hd md) k
  have S39 : ∀ t, Steps p.tables e below (s₁.setTop (mkF m 5 #[.val (.long a1), .second, .val (.long b1), .second, .val (.long hd), .second, .val (.int md), .unset, .unset, .unset, .unset, .unset, .unset, .unset, .unset, .unset, .unset] [(.int (md &&& (1 : Int32))), (.long a1)])) t → Steps p.tables e below (s₁.setTop (mkF m 0 #[.val (.long a1), .second, .val (.long b1), .second, .val (.long hd), .second, .val (.int md), .unset, .unset, .unset, .unset, .unset, .unset, .unset, .unset, .unset, .unset] [])) t := by
    intro t kt
    show Steps p.tables e below (s₁.setTop (mkF m 0 #[.val (.long a1), .second, .val (.long b1), .second, .val (.long hd), .second, .val (.int md), .unset, .unset, .unset, .unset, .unset, .unset, .unset, .unset, .unset, .unset] [])) _
    refine XS.lloadN X0.here hx rfl (hb hby at_0) rfl ?_
    show Steps p.tables e below (s₁.setTop (mkF m 1 #[.val (.long a1), .second, .val (.long b1), .second, .val (.long hd), .second, .val (.int md), .unset, .unset, .unset, .unset, .unset, .unset, .unset, .unset, .unset, .unset] [(.long a1)])) _
    refine XS.iload X0.here hx rfl (hb hby at_1) rfl ?_
    show Steps p.tables e below (s₁.setTop (mkF m 3 #[.val (.long a1), .second, .val (.long b1), .second, .val (.long hd), .second, .val (.int md), .unset, .unset, .unset, .unset, .unset, .unset, .unset, .unset, .unset, .unset] [(.int md), (.long a1)])) _
    refine XS.iconst X0.here hx rfl (hb hby at_3) ?_
    show Steps p.tables e below (s₁.setTop (mkF m 4 #[.val (.long a1), .second, .val (.long b1), .second, .val (.long hd), .second, .val (.int md), .unset, .unset, .unset, .unset, .unset, .unset, .unset, .unset, .unset, .unset] [(.int (1 : Int32)), (.int md), (.long a1)])) _
    refine XS.iand X0.here hx rfl (hb hby at_4) rfl ?_
    exact kt
  obtain ⟨v42, hv42⟩ : ∃ z : Int32, z = (if (md &&& (1 : Int32)) = (0 : Int32) then (0 : Int32) else (1 : Int32)) := ⟨_, rfl⟩
  have S41 : ∀ t, Steps p.tables e below (s₁.setTop (mkF m 13 #[.val (.long a1), .second, .val (.long b1), .second, .val (.long hd), .second, .val (.int md), .unset, .unset, .unset, .unset, .unset, .unset, .unset, .unset, .unset, .unset] [(.int v42), (.long a1)])) t → Steps p.tables e below (s₁.setTop (mkF m 5 #[.val (.long a1), .second, .val (.long b1), .second, .val (.long hd), .second, .val (.int md), .unset, .unset, .unset, .unset, .unset, .unset, .unset, .unset, .unset, .unset] [(.int (md &&& (1 : Int32))), (.long a1)])) t := by
    intro t kt
    subst hv42
    by_cases hc40 : (md &&& (1 : Int32)) = (0 : Int32)
    · simp only [if_pos hc40] at kt
      show Steps p.tables e below (s₁.setTop (mkF m 5 #[.val (.long a1), .second, .val (.long b1), .second, .val (.long hd), .second, .val (.int md), .unset, .unset, .unset, .unset, .unset, .unset, .unset, .unset, .unset, .unset] [(.int (md &&& (1 : Int32))), (.long a1)])) _
      refine XS.ifYes X0.here hx rfl (pc0 := 5) (pc' := 12) rfl (hb hby at_5) rfl ((if0 _ _).trans (teq hc40).1) (by decide) (by decide) ?_
      show Steps p.tables e below (s₁.setTop (mkF m 12 #[.val (.long a1), .second, .val (.long b1), .second, .val (.long hd), .second, .val (.int md), .unset, .unset, .unset, .unset, .unset, .unset, .unset, .unset, .unset, .unset] [(.long a1)])) _
      refine XS.iconst X0.here hx rfl (hb hby at_12) ?_
      exact kt
    · simp only [if_neg hc40] at kt
      show Steps p.tables e below (s₁.setTop (mkF m 5 #[.val (.long a1), .second, .val (.long b1), .second, .val (.long hd), .second, .val (.int md), .unset, .unset, .unset, .unset, .unset, .unset, .unset, .unset, .unset, .unset] [(.int (md &&& (1 : Int32))), (.long a1)])) _
      refine XS.ifNo X0.here hx rfl (hb hby at_5) rfl ((if0 _ _).trans (feq hc40).1) ?_
      show Steps p.tables e below (s₁.setTop (mkF m 8 #[.val (.long a1), .second, .val (.long b1), .second, .val (.long hd), .second, .val (.int md), .unset, .unset, .unset, .unset, .unset, .unset, .unset, .unset, .unset, .unset] [(.long a1)])) _
      refine XS.iconst X0.here hx rfl (hb hby at_8) ?_
      show Steps p.tables e below (s₁.setTop (mkF m 9 #[.val (.long a1), .second, .val (.long b1), .second, .val (.long hd), .second, .val (.int md), .unset, .unset, .unset, .unset, .unset, .unset, .unset, .unset, .unset, .unset] [(.int (1 : Int32)), (.long a1)])) _
      refine XS.goto X0.here hx rfl (pc0 := 9) (pc' := 13) rfl (hb hby at_9) (by decide) (by decide) ?_
      exact kt
  obtain ⟨_, _, ⟨T43, L43, k43, n43⟩, -, X43, ⟨Lc43, hQ43, l43, y43, z43⟩, st43⟩ := Jvm.LawKit.callS X0 hx (y := (⟨"com/example/portcullis/portcullis/service/RetentionLookedPinLaw", "pick", "(JZ)J"⟩ : MethodName)) hown (mvT hZ (hw _ (List.mem_of_getElem? (i := 0) rfl))) (mvT hZ (hw _ (List.mem_of_getElem? (i := 1) rfl))) (mvT hZ (hw _ (List.mem_of_getElem? (i := 2) rfl))) (mvT hZ (hw _ (List.mem_of_getElem? (i := 3) rfl))) (by decide) (backOf (W := 0) (rm1 l Z a0 hw [] a1 v42 h0 n0 Z0 ) hZ (hw _ (List.mem_of_getElem? (i := 3) rfl)) (hw _ (List.mem_of_getElem? (i := 2) rfl)) (by decide) (by decide)) (g := (mkF m 13 #[.val (.long a1), .second, .val (.long b1), .second, .val (.long hd), .second, .val (.int md), .unset, .unset, .unset, .unset, .unset, .unset, .unset, .unset, .unset, .unset] [(.int v42), (.long a1)])) rfl (by rw [hml]; rfl) (argsL := [(.long a1), (.int v42)]) (rest := []) (lenOf pd_1 rfl) rfl (by show 2 * 0 + _ ≤ _; exact Nat.le_of_eq rfl) (hb hby at_13) (fun _ _ => ⟨rfl, e0, (by decide : 0 + 0 ≤ _), (by decide : 0 + 0 ≤ _)⟩)
  dsimp only [Pt.U, Pt.locs, Pt.cells, Pt.slots] at X43 l43 y43 z43 st43 hQ43
  subst l43 y43 z43
  obtain ⟨rfl, N43q, e43⟩ := hQ43
  have N43 := Fr.app N0 N43q
  have S44 : ∀ t, Steps p.tables e below (T43.setTop (mkF m 23 #[.val (.long a1), .second, .val (.long b1), .second, .val (.long hd), .second, .val (.int md), .val (.long (own_pick a1 v42)), .second, .unset, .unset, .unset, .unset, .unset, .unset, .unset, .unset] [(.int (md &&& (2 : Int32))), (.long b1)])) t → Steps p.tables e below (T43.setTop (mkF m 16 #[.val (.long a1), .second, .val (.long b1), .second, .val (.long hd), .second, .val (.int md), .unset, .unset, .unset, .unset, .unset, .unset, .unset, .unset, .unset, .unset] [(.long (own_pick a1 v42))])) t := by
    intro t kt
    show Steps p.tables e below (T43.setTop (mkF m 16 #[.val (.long a1), .second, .val (.long b1), .second, .val (.long hd), .second, .val (.int md), .unset, .unset, .unset, .unset, .unset, .unset, .unset, .unset, .unset, .unset] [(.long (own_pick a1 v42))])) _
    refine XS.lstore X43.here hx rfl (hb hby at_16) rfl (l' := #[.val (.long a1), .second, .val (.long b1), .second, .val (.long hd), .second, .val (.int md), .val (.long (own_pick a1 v42)), .second, .unset, .unset, .unset, .unset, .unset, .unset, .unset, .unset]) rfl ?_
    show Steps p.tables e below (T43.setTop (mkF m 18 #[.val (.long a1), .second, .val (.long b1), .second, .val (.long hd), .second, .val (.int md), .val (.long (own_pick a1 v42)), .second, .unset, .unset, .unset, .unset, .unset, .unset, .unset, .unset] [])) _
    refine XS.lloadN X43.here hx rfl (hb hby at_18) rfl ?_
    show Steps p.tables e below (T43.setTop (mkF m 19 #[.val (.long a1), .second, .val (.long b1), .second, .val (.long hd), .second, .val (.int md), .val (.long (own_pick a1 v42)), .second, .unset, .unset, .unset, .unset, .unset, .unset, .unset, .unset] [(.long b1)])) _
    refine XS.iload X43.here hx rfl (hb hby at_19) rfl ?_
    show Steps p.tables e below (T43.setTop (mkF m 21 #[.val (.long a1), .second, .val (.long b1), .second, .val (.long hd), .second, .val (.int md), .val (.long (own_pick a1 v42)), .second, .unset, .unset, .unset, .unset, .unset, .unset, .unset, .unset] [(.int md), (.long b1)])) _
    refine XS.iconst X43.here hx rfl (hb hby at_21) ?_
    show Steps p.tables e below (T43.setTop (mkF m 22 #[.val (.long a1), .second, .val (.long b1), .second, .val (.long hd), .second, .val (.int md), .val (.long (own_pick a1 v42)), .second, .unset, .unset, .unset, .unset, .unset, .unset, .unset, .unset] [(.int (2 : Int32)), (.int md), (.long b1)])) _
    refine XS.iand X43.here hx rfl (hb hby at_22) rfl ?_
    exact kt
  obtain ⟨v47, hv47⟩ : ∃ z : Int32, z = (if (md &&& (2 : Int32)) = (0 : Int32) then (0 : Int32) else (1 : Int32)) := ⟨_, rfl⟩
  have S46 : ∀ t, Steps p.tables e below (T43.setTop (mkF m 31 #[.val (.long a1), .second, .val (.long b1), .second, .val (.long hd), .second, .val (.int md), .val (.long (own_pick a1 v42)), .second, .unset, .unset, .unset, .unset, .unset, .unset, .unset, .unset] [(.int v47), (.long b1)])) t → Steps p.tables e below (T43.setTop (mkF m 23 #[.val (.long a1), .second, .val (.long b1), .second, .val (.long hd), .second, .val (.int md), .val (.long (own_pick a1 v42)), .second, .unset, .unset, .unset, .unset, .unset, .unset, .unset, .unset] [(.int (md &&& (2 : Int32))), (.long b1)])) t := by
    intro t kt
    subst hv47
    by_cases hc45 : (md &&& (2 : Int32)) = (0 : Int32)
    · simp only [if_pos hc45] at kt
      show Steps p.tables e below (T43.setTop (mkF m 23 #[.val (.long a1), .second, .val (.long b1), .second, .val (.long hd), .second, .val (.int md), .val (.long (own_pick a1 v42)), .second, .unset, .unset, .unset, .unset, .unset, .unset, .unset, .unset] [(.int (md &&& (2 : Int32))), (.long b1)])) _
      refine XS.ifYes X43.here hx rfl (pc0 := 23) (pc' := 30) rfl (hb hby at_23) rfl ((if0 _ _).trans (teq hc45).1) (by decide) (by decide) ?_
      show Steps p.tables e below (T43.setTop (mkF m 30 #[.val (.long a1), .second, .val (.long b1), .second, .val (.long hd), .second, .val (.int md), .val (.long (own_pick a1 v42)), .second, .unset, .unset, .unset, .unset, .unset, .unset, .unset, .unset] [(.long b1)])) _
      refine XS.iconst X43.here hx rfl (hb hby at_30) ?_
      exact kt
    · simp only [if_neg hc45] at kt
      show Steps p.tables e below (T43.setTop (mkF m 23 #[.val (.long a1), .second, .val (.long b1), .second, .val (.long hd), .second, .val (.int md), .val (.long (own_pick a1 v42)), .second, .unset, .unset, .unset, .unset, .unset, .unset, .unset, .unset] [(.int (md &&& (2 : Int32))), (.long b1)])) _
      refine XS.ifNo X43.here hx rfl (hb hby at_23) rfl ((if0 _ _).trans (feq hc45).1) ?_
      show Steps p.tables e below (T43.setTop (mkF m 26 #[.val (.long a1), .second, .val (.long b1), .second, .val (.long hd), .second, .val (.int md), .val (.long (own_pick a1 v42)), .second, .unset, .unset, .unset, .unset, .unset, .unset, .unset, .unset] [(.long b1)])) _
      refine XS.iconst X43.here hx rfl (hb hby at_26) ?_
      show Steps p.tables e below (T43.setTop (mkF m 27 #[.val (.long a1), .second, .val (.long b1), .second, .val (.long hd), .second, .val (.int md), .val (.long (own_pick a1 v42)), .second, .unset, .unset, .unset, .unset, .unset, .unset, .unset, .unset] [(.int (1 : Int32)), (.long b1)])) _
      refine XS.goto X43.here hx rfl (pc0 := 27) (pc' := 31) rfl (hb hby at_27) (by decide) (by decide) ?_
      exact kt
  obtain ⟨_, _, ⟨T48, L48, k48, n48⟩, -, X48, ⟨Lc48, hQ48, l48, y48, z48⟩, st48⟩ := Jvm.LawKit.callS X43 hx (y := (⟨"com/example/portcullis/portcullis/service/RetentionLookedPinLaw", "pick", "(JZ)J"⟩ : MethodName)) hown (mvT hZ (hw _ (List.mem_of_getElem? (i := 0) rfl))) (mvT hZ (hw _ (List.mem_of_getElem? (i := 1) rfl))) (mvT hZ (hw _ (List.mem_of_getElem? (i := 2) rfl))) (mvT hZ (hw _ (List.mem_of_getElem? (i := 3) rfl))) (by decide) (backOf (W := 0) (rm1 l Z a0 hw [] b1 v47 h0 n0 Z0 ) hZ (hw _ (List.mem_of_getElem? (i := 3) rfl)) (hw _ (List.mem_of_getElem? (i := 2) rfl)) (by decide) (by decide)) (g := (mkF m 31 #[.val (.long a1), .second, .val (.long b1), .second, .val (.long hd), .second, .val (.int md), .val (.long (own_pick a1 v42)), .second, .unset, .unset, .unset, .unset, .unset, .unset, .unset, .unset] [(.int v47), (.long b1)])) rfl (by rw [hml]; rfl) (argsL := [(.long b1), (.int v47)]) (rest := []) (lenOf pd_1 rfl) rfl (by show 2 * 0 + _ ≤ _; exact Nat.le_of_eq rfl) (hb hby at_31) (fun _ _ => ⟨rfl, e43, (by decide : 0 + 0 ≤ _), (by decide : 0 + 0 ≤ _)⟩)
  dsimp only [Pt.U, Pt.locs, Pt.cells, Pt.slots] at X48 l48 y48 z48 st48 hQ48
  subst l48 y48 z48
  obtain ⟨rfl, N48q, e48⟩ := hQ48
  have N48 := Fr.app N43 N48q
  have S49 : ∀ t, Steps p.tables e below (T48.setTop (mkF m 36 #[.val (.long a1), .second, .val (.long b1), .second, .val (.long hd), .second, .val (.int md), .val (.long (own_pick a1 v42)), .second, .val (.long (own_pick b1 v47)), .second, .unset, .unset, .unset, .unset, .unset, .unset] [])) t → Steps p.tables e below (T48.setTop (mkF m 34 #[.val (.long a1), .second, .val (.long b1), .second, .val (.long hd), .second, .val (.int md), .val (.long (own_pick a1 v42)), .second, .unset, .unset, .unset, .unset, .unset, .unset, .unset, .unset] [(.long (own_pick b1 v47))])) t := by
    intro t kt
    show Steps p.tables e below (T48.setTop (mkF m 34 #[.val (.long a1), .second, .val (.long b1), .second, .val (.long hd), .second, .val (.int md), .val (.long (own_pick a1 v42)), .second, .unset, .unset, .unset, .unset, .unset, .unset, .unset, .unset] [(.long (own_pick b1 v47))])) _
    refine XS.lstore X48.here hx rfl (hb hby at_34) rfl (l' := #[.val (.long a1), .second, .val (.long b1), .second, .val (.long hd), .second, .val (.int md), .val (.long (own_pick a1 v42)), .second, .val (.long (own_pick b1 v47)), .second, .unset, .unset, .unset, .unset, .unset, .unset]) rfl ?_
    exact kt
  obtain ⟨T50, h50, X50, e50, E50, A50, D50, -, st50⟩ := newO X48 hx hZ hown (hw _ (List.mem_of_getElem? (i := 6) rfl)) (hw _ (List.mem_of_getElem? (i := 7) rfl)) (hw _ (List.mem_of_getElem? (i := 8) rfl)) e48 (g := (mkF m 36 #[.val (.long a1), .second, .val (.long b1), .second, .val (.long hd), .second, .val (.int md), .val (.long (own_pick a1 v42)), .second, .val (.long (own_pick b1 v47)), .second, .unset, .unset, .unset, .unset, .unset, .unset] [])) rfl (hb hby at_36) (by decide) (by decide)
  obtain ⟨b50, g50⟩ : ∃ z, z = h0.size := ⟨_, rfl⟩
  rw [← g50] at A50 D50 st50
  have g_b50 : n0 ≤ b50 := Nat.le_trans Z0 (Nat.le_of_eq g50.symm)
  have K51 := (Keep.refl h0 [])
  have sz_b50 : h0.size ≤ b50 := Nat.le_trans K51.1 (Nat.le_of_eq g50.symm)
  have z52 : n0 ≤ h50.size := Nat.le_trans Z0 E50.1
  have F53 : Fld Z h50 b50 "com/example/portcullis/portcullis/service/Retention" "lookAt" "J" (.long (0 : Int64)) := D50 (Or.inl (hw _ (List.mem_of_getElem? (i := 17) rfl))) (ty := .long) (by decide)
  have S54 : ∀ t, Steps p.tables e below (T50.setTop (mkF m 40 #[.val (.long a1), .second, .val (.long b1), .second, .val (.long hd), .second, .val (.int md), .val (.long (own_pick a1 v42)), .second, .val (.long (own_pick b1 v47)), .second, .unset, .unset, .unset, .unset, .unset, .unset] [(.ref b50), (.ref b50)])) t → Steps p.tables e below (T50.setTop (mkF m 39 #[.val (.long a1), .second, .val (.long b1), .second, .val (.long hd), .second, .val (.int md), .val (.long (own_pick a1 v42)), .second, .val (.long (own_pick b1 v47)), .second, .unset, .unset, .unset, .unset, .unset, .unset] [(.ref b50)])) t := by
    intro t kt
    show Steps p.tables e below (T50.setTop (mkF m 39 #[.val (.long a1), .second, .val (.long b1), .second, .val (.long hd), .second, .val (.int md), .val (.long (own_pick a1 v42)), .second, .val (.long (own_pick b1 v47)), .second, .unset, .unset, .unset, .unset, .unset, .unset] [(.ref b50)])) _
    refine XS.dup X50.here hx rfl (hb hby at_39) rfl rfl ?_
    exact kt
  obtain ⟨_, _, ⟨T55, L55, k55, n55⟩, -, X55, ⟨Lc55, hQ55, l55, y55, z55⟩, st55⟩ := X50.specialBack hx (y := (⟨"com/example/portcullis/portcullis/service/Retention", "<init>", "()V"⟩ : MethodName)) rfl hown (mvT hZ (hw _ (List.mem_of_getElem? (i := 9) rfl))) (mvT hZ (hw _ (List.mem_of_getElem? (i := 10) rfl))) (mvT hZ (hw _ (List.mem_of_getElem? (i := 11) rfl))) (by decide) (backOf (W := 1) (rm2 l Z a0 hw [] b50 (.long (0 : Int64)) h50 n0 z52 A50 F53 g_b50) hZ (hw _ (List.mem_of_getElem? (i := 11) rfl)) (hw _ (List.mem_of_getElem? (i := 8) rfl)) (by decide) (by decide)) (g := (mkF m 40 #[.val (.long a1), .second, .val (.long b1), .second, .val (.long hd), .second, .val (.int md), .val (.long (own_pick a1 v42)), .second, .val (.long (own_pick b1 v47)), .second, .unset, .unset, .unset, .unset, .unset, .unset] [(.ref b50), (.ref b50)])) rfl (by rw [hml]; rfl) (Steps.refl _) (a := b50) (argsL := []) (rest := [(.ref b50)]) (lenOf pd_2 rfl) rfl (by show 2 * 0 + _ ≤ _; exact Nat.le_of_eq rfl) (hb hby at_40) (fun _ _ => ⟨rfl, e50, (by decide : 1 + 0 ≤ _), (by decide : 1 + 0 ≤ _)⟩)
  dsimp only [Pt.U, Pt.locs, Pt.cells, Pt.slots] at X55 l55 y55 z55 st55 hQ55
  subst l55 y55 z55
  obtain ⟨h55, e55⟩ : ∃ z, T55.heap = z := ⟨_, rfl⟩
  rw [e55] at hQ55
  obtain ⟨rfl, N55q, K55q, F56⟩ := hQ55
  have z57 : n0 ≤ h55.size := Nat.le_trans z52 K55q.1
  have N55 := Fr.app N48 N55q
  have f58 := (A50.keep K55q)
  have S59 : ∀ t, Steps p.tables e below (T55.setTop (mkF m 49 #[.val (.long a1), .second, .val (.long b1), .second, .val (.long hd), .second, .val (.int md), .val (.long (own_pick a1 v42)), .second, .val (.long (own_pick b1 v47)), .second, .val (.ref b50), .unset, .unset, .unset, .unset, .unset] [(.long (own_pick a1 v42)), (.ref b50)])) t → Steps p.tables e below (T55.setTop (mkF m 43 #[.val (.long a1), .second, .val (.long b1), .second, .val (.long hd), .second, .val (.int md), .val (.long (own_pick a1 v42)), .second, .val (.long (own_pick b1 v47)), .second, .unset, .unset, .unset, .unset, .unset, .unset] [(.ref b50)])) t := by
    intro t kt
    show Steps p.tables e below (T55.setTop (mkF m 43 #[.val (.long a1), .second, .val (.long b1), .second, .val (.long hd), .second, .val (.int md), .val (.long (own_pick a1 v42)), .second, .val (.long (own_pick b1 v47)), .second, .unset, .unset, .unset, .unset, .unset, .unset] [(.ref b50)])) _
    refine XS.astore X55.here hx rfl (hb hby at_43) rfl rfl (l' := #[.val (.long a1), .second, .val (.long b1), .second, .val (.long hd), .second, .val (.int md), .val (.long (own_pick a1 v42)), .second, .val (.long (own_pick b1 v47)), .second, .val (.ref b50), .unset, .unset, .unset, .unset, .unset]) rfl ?_
    show Steps p.tables e below (T55.setTop (mkF m 45 #[.val (.long a1), .second, .val (.long b1), .second, .val (.long hd), .second, .val (.int md), .val (.long (own_pick a1 v42)), .second, .val (.long (own_pick b1 v47)), .second, .val (.ref b50), .unset, .unset, .unset, .unset, .unset] [])) _
    refine XS.aload X55.here hx rfl (hb hby at_45) rfl rfl ?_
    show Steps p.tables e below (T55.setTop (mkF m 47 #[.val (.long a1), .second, .val (.long b1), .second, .val (.long hd), .second, .val (.int md), .val (.long (own_pick a1 v42)), .second, .val (.long (own_pick b1 v47)), .second, .val (.ref b50), .unset, .unset, .unset, .unset, .unset] [(.ref b50)])) _
    refine XS.lload X55.here hx rfl (hb hby at_47) rfl ?_
    exact kt
  obtain ⟨cq60, kq60, q60a, q60b, q60c⟩ := isOf hZ e55 f58
  obtain ⟨_, _, ⟨T60, L60, k60, n60⟩, -, X60, ⟨Lc60, hQ60, l60, y60, z60⟩, st60⟩ := X55.virtualBack hx (y := (⟨"com/example/portcullis/portcullis/service/Retention", "looked", "(J)V"⟩ : MethodName)) (z := (⟨"com/example/portcullis/portcullis/service/Retention", "looked", "(J)V"⟩ : MethodName)) hown (mvT hZ (hw _ (List.mem_of_getElem? (i := 18) rfl))) (mvT hZ (hw _ (List.mem_of_getElem? (i := 19) rfl))) (notFace_of_selects (args := #[]) (mvT hZ (hw _ (List.mem_of_getElem? (i := 21) rfl)))) (mvT hZ (hw _ (List.mem_of_getElem? (i := 21) rfl))) (mvT hZ (hw _ (List.mem_of_getElem? (i := 20) rfl))) (by decide) (backOf (W := 0) (rm4 l Z a0 hw [] b50 (own_pick a1 v42) (.long (1024 : Int64)) h55 n0 z57 f58 F56 g_b50) hZ (hw _ (List.mem_of_getElem? (i := 22) rfl)) (hw _ (List.mem_of_getElem? (i := 8) rfl)) (by decide) (by decide)) q60a q60c (g := (mkF m 49 #[.val (.long a1), .second, .val (.long b1), .second, .val (.long hd), .second, .val (.int md), .val (.long (own_pick a1 v42)), .second, .val (.long (own_pick b1 v47)), .second, .val (.ref b50), .unset, .unset, .unset, .unset, .unset] [(.long (own_pick a1 v42)), (.ref b50)])) rfl (by rw [hml]; rfl) (Steps.refl _) (argsL := [(.long (own_pick a1 v42))]) (rest := []) (lenOf pd_3 rfl) rfl (by show 2 * 0 + _ ≤ _; exact Nat.le_of_eq rfl) (hb hby at_49) (fun _ _ => ⟨rfl, e55, (by decide : 1 + 0 ≤ _), (by decide : 1 + 0 ≤ _)⟩)
  dsimp only [Pt.U, Pt.locs, Pt.cells, Pt.slots] at X60 l60 y60 z60 st60 hQ60
  subst l60 y60 z60
  obtain ⟨h60, e60⟩ : ∃ z, T60.heap = z := ⟨_, rfl⟩
  rw [e60] at hQ60
  obtain ⟨rfl, N60q, K60q, F61⟩ := hQ60
  have z62 : n0 ≤ h60.size := Nat.le_trans z57 K60q.1
  have N60 := Fr.app N55 N60q
  have f63 := (f58.keep K60q)
  have S64 : ∀ t, Steps p.tables e below (T60.setTop (mkF m 56 #[.val (.long a1), .second, .val (.long b1), .second, .val (.long hd), .second, .val (.int md), .val (.long (own_pick a1 v42)), .second, .val (.long (own_pick b1 v47)), .second, .val (.ref b50), .unset, .unset, .unset, .unset, .unset] [(.long (own_pick b1 v47)), (.ref b50)])) t → Steps p.tables e below (T60.setTop (mkF m 52 #[.val (.long a1), .second, .val (.long b1), .second, .val (.long hd), .second, .val (.int md), .val (.long (own_pick a1 v42)), .second, .val (.long (own_pick b1 v47)), .second, .val (.ref b50), .unset, .unset, .unset, .unset, .unset] [])) t := by
    intro t kt
    show Steps p.tables e below (T60.setTop (mkF m 52 #[.val (.long a1), .second, .val (.long b1), .second, .val (.long hd), .second, .val (.int md), .val (.long (own_pick a1 v42)), .second, .val (.long (own_pick b1 v47)), .second, .val (.ref b50), .unset, .unset, .unset, .unset, .unset] [])) _
    refine XS.aload X60.here hx rfl (hb hby at_52) rfl rfl ?_
    show Steps p.tables e below (T60.setTop (mkF m 54 #[.val (.long a1), .second, .val (.long b1), .second, .val (.long hd), .second, .val (.int md), .val (.long (own_pick a1 v42)), .second, .val (.long (own_pick b1 v47)), .second, .val (.ref b50), .unset, .unset, .unset, .unset, .unset] [(.ref b50)])) _
    refine XS.lload X60.here hx rfl (hb hby at_54) rfl ?_
    exact kt
  obtain ⟨cq65, kq65, q65a, q65b, q65c⟩ := isOf hZ e60 f63
  obtain ⟨_, _, ⟨T65, L65, k65, n65⟩, -, X65, ⟨Lc65, hQ65, l65, y65, z65⟩, st65⟩ := X60.virtualBack hx (y := (⟨"com/example/portcullis/portcullis/service/Retention", "looked", "(J)V"⟩ : MethodName)) (z := (⟨"com/example/portcullis/portcullis/service/Retention", "looked", "(J)V"⟩ : MethodName)) hown (mvT hZ (hw _ (List.mem_of_getElem? (i := 18) rfl))) (mvT hZ (hw _ (List.mem_of_getElem? (i := 19) rfl))) (notFace_of_selects (args := #[]) (mvT hZ (hw _ (List.mem_of_getElem? (i := 21) rfl)))) (mvT hZ (hw _ (List.mem_of_getElem? (i := 21) rfl))) (mvT hZ (hw _ (List.mem_of_getElem? (i := 20) rfl))) (by decide) (backOf (W := 0) (rm4 l Z a0 hw [] b50 (own_pick b1 v47) (.long (own_max 1024 (2 * (own_pick a1 v42)))) h60 n0 z62 f63 F61 g_b50) hZ (hw _ (List.mem_of_getElem? (i := 22) rfl)) (hw _ (List.mem_of_getElem? (i := 8) rfl)) (by decide) (by decide)) q65a q65c (g := (mkF m 56 #[.val (.long a1), .second, .val (.long b1), .second, .val (.long hd), .second, .val (.int md), .val (.long (own_pick a1 v42)), .second, .val (.long (own_pick b1 v47)), .second, .val (.ref b50), .unset, .unset, .unset, .unset, .unset] [(.long (own_pick b1 v47)), (.ref b50)])) rfl (by rw [hml]; rfl) (Steps.refl _) (argsL := [(.long (own_pick b1 v47))]) (rest := []) (lenOf pd_3 rfl) rfl (by show 2 * 0 + _ ≤ _; exact Nat.le_of_eq rfl) (hb hby at_56) (fun _ _ => ⟨rfl, e60, (by decide : 1 + 0 ≤ _), (by decide : 1 + 0 ≤ _)⟩)
  dsimp only [Pt.U, Pt.locs, Pt.cells, Pt.slots] at X65 l65 y65 z65 st65 hQ65
  subst l65 y65 z65
  obtain ⟨h65, e65⟩ : ∃ z, T65.heap = z := ⟨_, rfl⟩
  rw [e65] at hQ65
  obtain ⟨rfl, N65q, K65q, F66⟩ := hQ65
  have z67 : n0 ≤ h65.size := Nat.le_trans z62 K65q.1
  have N65 := Fr.app N60 N65q
  have S68 : ∀ t, Steps p.tables e below (T65.setTop (mkF m 65 #[.val (.long a1), .second, .val (.long b1), .second, .val (.long hd), .second, .val (.int md), .val (.long (own_pick a1 v42)), .second, .val (.long (own_pick b1 v47)), .second, .val (.ref b50), .unset, .unset, .unset, .unset, .unset] [(.int (lcmpW (own_pick b1 v47) (512 : Int64)))])) t → Steps p.tables e below (T65.setTop (mkF m 59 #[.val (.long a1), .second, .val (.long b1), .second, .val (.long hd), .second, .val (.int md), .val (.long (own_pick a1 v42)), .second, .val (.long (own_pick b1 v47)), .second, .val (.ref b50), .unset, .unset, .unset, .unset, .unset] [])) t := by
    intro t kt
    show Steps p.tables e below (T65.setTop (mkF m 59 #[.val (.long a1), .second, .val (.long b1), .second, .val (.long hd), .second, .val (.int md), .val (.long (own_pick a1 v42)), .second, .val (.long (own_pick b1 v47)), .second, .val (.ref b50), .unset, .unset, .unset, .unset, .unset] [])) _
    refine XS.lload X65.here hx rfl (hb hby at_59) rfl ?_
    show Steps p.tables e below (T65.setTop (mkF m 61 #[.val (.long a1), .second, .val (.long b1), .second, .val (.long hd), .second, .val (.int md), .val (.long (own_pick a1 v42)), .second, .val (.long (own_pick b1 v47)), .second, .val (.ref b50), .unset, .unset, .unset, .unset, .unset] [(.long (own_pick b1 v47))])) _
    refine X65.ldc2Long hx hown (mvT hZ (hw _ (List.mem_of_getElem? (i := 28) rfl))) (g := (mkF m 61 #[.val (.long a1), .second, .val (.long b1), .second, .val (.long hd), .second, .val (.int md), .val (.long (own_pick a1 v42)), .second, .val (.long (own_pick b1 v47)), .second, .val (.ref b50), .unset, .unset, .unset, .unset, .unset] [(.long (own_pick b1 v47))])) rfl (hb hby at_61) _ ?_
    show Steps p.tables e below (T65.setTop (mkF m 64 #[.val (.long a1), .second, .val (.long b1), .second, .val (.long hd), .second, .val (.int md), .val (.long (own_pick a1 v42)), .second, .val (.long (own_pick b1 v47)), .second, .val (.ref b50), .unset, .unset, .unset, .unset, .unset] [(.long (512 : Int64)), (.long (own_pick b1 v47))])) _
    refine XS.lcmp X65.here hx rfl (hb hby at_64) rfl ?_
    exact kt
  obtain ⟨v71, hv71⟩ : ∃ z : Int64, z = (if (512 : Int64) < (own_pick b1 v47) then ((own_pick b1 v47) + (own_pick b1 v47)) else (1024 : Int64)) := ⟨_, rfl⟩
  have S70 : ∀ t, Steps p.tables e below (T65.setTop (mkF m 83 #[.val (.long a1), .second, .val (.long b1), .second, .val (.long hd), .second, .val (.int md), .val (.long (own_pick a1 v42)), .second, .val (.long (own_pick b1 v47)), .second, .val (.ref b50), .val (.long v71), .second, .unset, .unset, .unset] [])) t → Steps p.tables e below (T65.setTop (mkF m 65 #[.val (.long a1), .second, .val (.long b1), .second, .val (.long hd), .second, .val (.int md), .val (.long (own_pick a1 v42)), .second, .val (.long (own_pick b1 v47)), .second, .val (.ref b50), .unset, .unset, .unset, .unset, .unset] [(.int (lcmpW (own_pick b1 v47) (512 : Int64)))])) t := by
    intro t kt
    subst hv71
    by_cases hc69 : (512 : Int64) < (own_pick b1 v47)
    · simp only [if_pos hc69] at kt
      show Steps p.tables e below (T65.setTop (mkF m 65 #[.val (.long a1), .second, .val (.long b1), .second, .val (.long hd), .second, .val (.int md), .val (.long (own_pick a1 v42)), .second, .val (.long (own_pick b1 v47)), .second, .val (.ref b50), .unset, .unset, .unset, .unset, .unset] [(.int (lcmpW (own_pick b1 v47) (512 : Int64)))])) _
      refine XS.ifYes X65.here hx rfl (pc0 := 65) (pc' := 76) rfl (hb hby at_65) rfl ((if0 _ _).trans (tlt ((lw_gt (own_pick b1 v47) (512 : Int64)).mpr hc69)).2.2.1) (by decide) (by decide) ?_
      show Steps p.tables e below (T65.setTop (mkF m 76 #[.val (.long a1), .second, .val (.long b1), .second, .val (.long hd), .second, .val (.int md), .val (.long (own_pick a1 v42)), .second, .val (.long (own_pick b1 v47)), .second, .val (.ref b50), .unset, .unset, .unset, .unset, .unset] [])) _
      refine XS.lload X65.here hx rfl (hb hby at_76) rfl ?_
      show Steps p.tables e below (T65.setTop (mkF m 78 #[.val (.long a1), .second, .val (.long b1), .second, .val (.long hd), .second, .val (.int md), .val (.long (own_pick a1 v42)), .second, .val (.long (own_pick b1 v47)), .second, .val (.ref b50), .unset, .unset, .unset, .unset, .unset] [(.long (own_pick b1 v47))])) _
      refine XS.lload X65.here hx rfl (hb hby at_78) rfl ?_
      show Steps p.tables e below (T65.setTop (mkF m 80 #[.val (.long a1), .second, .val (.long b1), .second, .val (.long hd), .second, .val (.int md), .val (.long (own_pick a1 v42)), .second, .val (.long (own_pick b1 v47)), .second, .val (.ref b50), .unset, .unset, .unset, .unset, .unset] [(.long (own_pick b1 v47)), (.long (own_pick b1 v47))])) _
      refine XS.ladd X65.here hx rfl (hb hby at_80) rfl ?_
      show Steps p.tables e below (T65.setTop (mkF m 81 #[.val (.long a1), .second, .val (.long b1), .second, .val (.long hd), .second, .val (.int md), .val (.long (own_pick a1 v42)), .second, .val (.long (own_pick b1 v47)), .second, .val (.ref b50), .unset, .unset, .unset, .unset, .unset] [(.long ((own_pick b1 v47) + (own_pick b1 v47)))])) _
      refine XS.lstore X65.here hx rfl (hb hby at_81) rfl (l' := #[.val (.long a1), .second, .val (.long b1), .second, .val (.long hd), .second, .val (.int md), .val (.long (own_pick a1 v42)), .second, .val (.long (own_pick b1 v47)), .second, .val (.ref b50), .val (.long ((own_pick b1 v47) + (own_pick b1 v47))), .second, .unset, .unset, .unset]) rfl ?_
      exact kt
    · simp only [if_neg hc69] at kt
      show Steps p.tables e below (T65.setTop (mkF m 65 #[.val (.long a1), .second, .val (.long b1), .second, .val (.long hd), .second, .val (.int md), .val (.long (own_pick a1 v42)), .second, .val (.long (own_pick b1 v47)), .second, .val (.ref b50), .unset, .unset, .unset, .unset, .unset] [(.int (lcmpW (own_pick b1 v47) (512 : Int64)))])) _
      refine XS.ifNo X65.here hx rfl (hb hby at_65) rfl ((if0 _ _).trans (flt (fun q => hc69 ((lw_gt (own_pick b1 v47) (512 : Int64)).mp q))).2.2.1) ?_
      show Steps p.tables e below (T65.setTop (mkF m 68 #[.val (.long a1), .second, .val (.long b1), .second, .val (.long hd), .second, .val (.int md), .val (.long (own_pick a1 v42)), .second, .val (.long (own_pick b1 v47)), .second, .val (.ref b50), .unset, .unset, .unset, .unset, .unset] [])) _
      refine X65.ldc2Long hx hown (mvT hZ (hw _ (List.mem_of_getElem? (i := 29) rfl))) (g := (mkF m 68 #[.val (.long a1), .second, .val (.long b1), .second, .val (.long hd), .second, .val (.int md), .val (.long (own_pick a1 v42)), .second, .val (.long (own_pick b1 v47)), .second, .val (.ref b50), .unset, .unset, .unset, .unset, .unset] [])) rfl (hb hby at_68) _ ?_
      show Steps p.tables e below (T65.setTop (mkF m 71 #[.val (.long a1), .second, .val (.long b1), .second, .val (.long hd), .second, .val (.int md), .val (.long (own_pick a1 v42)), .second, .val (.long (own_pick b1 v47)), .second, .val (.ref b50), .unset, .unset, .unset, .unset, .unset] [(.long (1024 : Int64))])) _
      refine XS.lstore X65.here hx rfl (hb hby at_71) rfl (l' := #[.val (.long a1), .second, .val (.long b1), .second, .val (.long hd), .second, .val (.int md), .val (.long (own_pick a1 v42)), .second, .val (.long (own_pick b1 v47)), .second, .val (.ref b50), .val (.long (1024 : Int64)), .second, .unset, .unset, .unset]) rfl ?_
      show Steps p.tables e below (T65.setTop (mkF m 73 #[.val (.long a1), .second, .val (.long b1), .second, .val (.long hd), .second, .val (.int md), .val (.long (own_pick a1 v42)), .second, .val (.long (own_pick b1 v47)), .second, .val (.ref b50), .val (.long (1024 : Int64)), .second, .unset, .unset, .unset] [])) _
      refine XS.goto X65.here hx rfl (pc0 := 73) (pc' := 83) rfl (hb hby at_73) (by decide) (by decide) ?_
      exact kt
  have hT : own_max 1024 (2 * (own_pick b1 v47)) = v71 := by rw [hv71, own_max_thr _ (own_pick_in _ _)]; rfl
  have hlo : own_lo v71 := by rw [← hT, own_max_thr _ (own_pick_in _ _)]; exact own_thr_le _ (own_pick_in _ _)
  rw [hT] at F66
  have S72 : ∀ t, Steps p.tables e below (T65.setTop (mkF m 89 #[.val (.long a1), .second, .val (.long b1), .second, .val (.long hd), .second, .val (.int md), .val (.long (own_pick a1 v42)), .second, .val (.long (own_pick b1 v47)), .second, .val (.ref b50), .val (.long v71), .second, .unset, .unset, .unset] [(.long (v71 - (1 : Int64))), (.ref b50)])) t → Steps p.tables e below (T65.setTop (mkF m 83 #[.val (.long a1), .second, .val (.long b1), .second, .val (.long hd), .second, .val (.int md), .val (.long (own_pick a1 v42)), .second, .val (.long (own_pick b1 v47)), .second, .val (.ref b50), .val (.long v71), .second, .unset, .unset, .unset] [])) t := by
    intro t kt
    show Steps p.tables e below (T65.setTop (mkF m 83 #[.val (.long a1), .second, .val (.long b1), .second, .val (.long hd), .second, .val (.int md), .val (.long (own_pick a1 v42)), .second, .val (.long (own_pick b1 v47)), .second, .val (.ref b50), .val (.long v71), .second, .unset, .unset, .unset] [])) _
    refine XS.aload X65.here hx rfl (hb hby at_83) rfl rfl ?_
    show Steps p.tables e below (T65.setTop (mkF m 85 #[.val (.long a1), .second, .val (.long b1), .second, .val (.long hd), .second, .val (.int md), .val (.long (own_pick a1 v42)), .second, .val (.long (own_pick b1 v47)), .second, .val (.ref b50), .val (.long v71), .second, .unset, .unset, .unset] [(.ref b50)])) _
    refine XS.lload X65.here hx rfl (hb hby at_85) rfl ?_
    show Steps p.tables e below (T65.setTop (mkF m 87 #[.val (.long a1), .second, .val (.long b1), .second, .val (.long hd), .second, .val (.int md), .val (.long (own_pick a1 v42)), .second, .val (.long (own_pick b1 v47)), .second, .val (.ref b50), .val (.long v71), .second, .unset, .unset, .unset] [(.long v71), (.ref b50)])) _
    refine XS.lconst X65.here hx rfl (hb hby at_87) ?_
    show Steps p.tables e below (T65.setTop (mkF m 88 #[.val (.long a1), .second, .val (.long b1), .second, .val (.long hd), .second, .val (.int md), .val (.long (own_pick a1 v42)), .second, .val (.long (own_pick b1 v47)), .second, .val (.ref b50), .val (.long v71), .second, .unset, .unset, .unset] [(.long (1 : Int64)), (.long v71), (.ref b50)])) _
    refine XS.lsub X65.here hx rfl (hb hby at_88) rfl ?_
    exact kt
  have f74 := (f63.keep K65q)
  obtain ⟨cq73, kq73, q73a, q73b, q73c⟩ := isOf hZ e65 f74
  obtain ⟨_, _, ⟨T73, L73, k73, n73⟩, -, X73, ⟨Lc73, hQ73, l73, y73, z73⟩, st73⟩ := X65.virtualBack hx (y := (⟨"com/example/portcullis/portcullis/service/Retention", "due", "(J)Z"⟩ : MethodName)) (z := (⟨"com/example/portcullis/portcullis/service/Retention", "due", "(J)Z"⟩ : MethodName)) hown (mvT hZ (hw _ (List.mem_of_getElem? (i := 30) rfl))) (mvT hZ (hw _ (List.mem_of_getElem? (i := 31) rfl))) (notFace_of_selects (args := #[]) (mvT hZ (hw _ (List.mem_of_getElem? (i := 33) rfl)))) (mvT hZ (hw _ (List.mem_of_getElem? (i := 33) rfl))) (mvT hZ (hw _ (List.mem_of_getElem? (i := 32) rfl))) (by decide) (backOf (W := 0) (rm6 l Z a0 hw [] b50 (v71 - (1 : Int64)) v71 h65 n0 z67 F66) hZ (hw _ (List.mem_of_getElem? (i := 34) rfl)) (hw _ (List.mem_of_getElem? (i := 8) rfl)) (by decide) (by decide)) q73a q73c (g := (mkF m 89 #[.val (.long a1), .second, .val (.long b1), .second, .val (.long hd), .second, .val (.int md), .val (.long (own_pick a1 v42)), .second, .val (.long (own_pick b1 v47)), .second, .val (.ref b50), .val (.long v71), .second, .unset, .unset, .unset] [(.long (v71 - (1 : Int64))), (.ref b50)])) rfl (by rw [hml]; rfl) (Steps.refl _) (argsL := [(.long (v71 - (1 : Int64)))]) (rest := []) (lenOf pd_4 rfl) rfl (by show 2 * 0 + _ ≤ _; exact Nat.le_of_eq rfl) (hb hby at_89) (fun _ _ => ⟨rfl, e65, (by decide : 1 + 0 ≤ _), (by decide : 1 + 0 ≤ _)⟩)
  dsimp only [Pt.U, Pt.locs, Pt.cells, Pt.slots] at X73 l73 y73 z73 st73 hQ73
  subst l73 y73 z73
  obtain ⟨rfl, N73q, e73⟩ := hQ73
  have N73 := Fr.app N65 N73q
  have S75 : ∀ t, Steps p.tables e below (T73.setTop (mkF m 98 #[.val (.long a1), .second, .val (.long b1), .second, .val (.long hd), .second, .val (.int md), .val (.long (own_pick a1 v42)), .second, .val (.long (own_pick b1 v47)), .second, .val (.ref b50), .val (.long v71), .second, .val (.int (own_due (v71 - (1 : Int64)) v71)), .unset, .unset] [(.long v71), (.ref b50)])) t → Steps p.tables e below (T73.setTop (mkF m 92 #[.val (.long a1), .second, .val (.long b1), .second, .val (.long hd), .second, .val (.int md), .val (.long (own_pick a1 v42)), .second, .val (.long (own_pick b1 v47)), .second, .val (.ref b50), .val (.long v71), .second, .unset, .unset, .unset] [(.int (own_due (v71 - (1 : Int64)) v71))])) t := by
    intro t kt
    show Steps p.tables e below (T73.setTop (mkF m 92 #[.val (.long a1), .second, .val (.long b1), .second, .val (.long hd), .second, .val (.int md), .val (.long (own_pick a1 v42)), .second, .val (.long (own_pick b1 v47)), .second, .val (.ref b50), .val (.long v71), .second, .unset, .unset, .unset] [(.int (own_due (v71 - (1 : Int64)) v71))])) _
    refine XS.istore X73.here hx rfl (hb hby at_92) rfl (l' := #[.val (.long a1), .second, .val (.long b1), .second, .val (.long hd), .second, .val (.int md), .val (.long (own_pick a1 v42)), .second, .val (.long (own_pick b1 v47)), .second, .val (.ref b50), .val (.long v71), .second, .val (.int (own_due (v71 - (1 : Int64)) v71)), .unset, .unset]) rfl ?_
    show Steps p.tables e below (T73.setTop (mkF m 94 #[.val (.long a1), .second, .val (.long b1), .second, .val (.long hd), .second, .val (.int md), .val (.long (own_pick a1 v42)), .second, .val (.long (own_pick b1 v47)), .second, .val (.ref b50), .val (.long v71), .second, .val (.int (own_due (v71 - (1 : Int64)) v71)), .unset, .unset] [])) _
    refine XS.aload X73.here hx rfl (hb hby at_94) rfl rfl ?_
    show Steps p.tables e below (T73.setTop (mkF m 96 #[.val (.long a1), .second, .val (.long b1), .second, .val (.long hd), .second, .val (.int md), .val (.long (own_pick a1 v42)), .second, .val (.long (own_pick b1 v47)), .second, .val (.ref b50), .val (.long v71), .second, .val (.int (own_due (v71 - (1 : Int64)) v71)), .unset, .unset] [(.ref b50)])) _
    refine XS.lload X73.here hx rfl (hb hby at_96) rfl ?_
    exact kt
  obtain ⟨cq76, kq76, q76a, q76b, q76c⟩ := isOf hZ e73 f74
  obtain ⟨_, _, ⟨T76, L76, k76, n76⟩, -, X76, ⟨Lc76, hQ76, l76, y76, z76⟩, st76⟩ := X73.virtualBack hx (y := (⟨"com/example/portcullis/portcullis/service/Retention", "due", "(J)Z"⟩ : MethodName)) (z := (⟨"com/example/portcullis/portcullis/service/Retention", "due", "(J)Z"⟩ : MethodName)) hown (mvT hZ (hw _ (List.mem_of_getElem? (i := 30) rfl))) (mvT hZ (hw _ (List.mem_of_getElem? (i := 31) rfl))) (notFace_of_selects (args := #[]) (mvT hZ (hw _ (List.mem_of_getElem? (i := 33) rfl)))) (mvT hZ (hw _ (List.mem_of_getElem? (i := 33) rfl))) (mvT hZ (hw _ (List.mem_of_getElem? (i := 32) rfl))) (by decide) (backOf (W := 0) (rm6 l Z a0 hw [] b50 v71 v71 h65 n0 z67 F66) hZ (hw _ (List.mem_of_getElem? (i := 34) rfl)) (hw _ (List.mem_of_getElem? (i := 8) rfl)) (by decide) (by decide)) q76a q76c (g := (mkF m 98 #[.val (.long a1), .second, .val (.long b1), .second, .val (.long hd), .second, .val (.int md), .val (.long (own_pick a1 v42)), .second, .val (.long (own_pick b1 v47)), .second, .val (.ref b50), .val (.long v71), .second, .val (.int (own_due (v71 - (1 : Int64)) v71)), .unset, .unset] [(.long v71), (.ref b50)])) rfl (by rw [hml]; rfl) (Steps.refl _) (argsL := [(.long v71)]) (rest := []) (lenOf pd_4 rfl) rfl (by show 2 * 0 + _ ≤ _; exact Nat.le_of_eq rfl) (hb hby at_98) (fun _ _ => ⟨rfl, e73, (by decide : 1 + 0 ≤ _), (by decide : 1 + 0 ≤ _)⟩)
  dsimp only [Pt.U, Pt.locs, Pt.cells, Pt.slots] at X76 l76 y76 z76 st76 hQ76
  subst l76 y76 z76
  obtain ⟨rfl, N76q, e76⟩ := hQ76
  have N76 := Fr.app N73 N76q
  have S77 : ∀ t, Steps p.tables e below (T76.setTop (mkF m 107 #[.val (.long a1), .second, .val (.long b1), .second, .val (.long hd), .second, .val (.int md), .val (.long (own_pick a1 v42)), .second, .val (.long (own_pick b1 v47)), .second, .val (.ref b50), .val (.long v71), .second, .val (.int (own_due (v71 - (1 : Int64)) v71)), .val (.int (own_due v71 v71)), .unset] [(.long hd), (.ref b50)])) t → Steps p.tables e below (T76.setTop (mkF m 101 #[.val (.long a1), .second, .val (.long b1), .second, .val (.long hd), .second, .val (.int md), .val (.long (own_pick a1 v42)), .second, .val (.long (own_pick b1 v47)), .second, .val (.ref b50), .val (.long v71), .second, .val (.int (own_due (v71 - (1 : Int64)) v71)), .unset, .unset] [(.int (own_due v71 v71))])) t := by
    intro t kt
    show Steps p.tables e below (T76.setTop (mkF m 101 #[.val (.long a1), .second, .val (.long b1), .second, .val (.long hd), .second, .val (.int md), .val (.long (own_pick a1 v42)), .second, .val (.long (own_pick b1 v47)), .second, .val (.ref b50), .val (.long v71), .second, .val (.int (own_due (v71 - (1 : Int64)) v71)), .unset, .unset] [(.int (own_due v71 v71))])) _
    refine XS.istore X76.here hx rfl (hb hby at_101) rfl (l' := #[.val (.long a1), .second, .val (.long b1), .second, .val (.long hd), .second, .val (.int md), .val (.long (own_pick a1 v42)), .second, .val (.long (own_pick b1 v47)), .second, .val (.ref b50), .val (.long v71), .second, .val (.int (own_due (v71 - (1 : Int64)) v71)), .val (.int (own_due v71 v71)), .unset]) rfl ?_
    show Steps p.tables e below (T76.setTop (mkF m 103 #[.val (.long a1), .second, .val (.long b1), .second, .val (.long hd), .second, .val (.int md), .val (.long (own_pick a1 v42)), .second, .val (.long (own_pick b1 v47)), .second, .val (.ref b50), .val (.long v71), .second, .val (.int (own_due (v71 - (1 : Int64)) v71)), .val (.int (own_due v71 v71)), .unset] [])) _
    refine XS.aload X76.here hx rfl (hb hby at_103) rfl rfl ?_
    show Steps p.tables e below (T76.setTop (mkF m 105 #[.val (.long a1), .second, .val (.long b1), .second, .val (.long hd), .second, .val (.int md), .val (.long (own_pick a1 v42)), .second, .val (.long (own_pick b1 v47)), .second, .val (.ref b50), .val (.long v71), .second, .val (.int (own_due (v71 - (1 : Int64)) v71)), .val (.int (own_due v71 v71)), .unset] [(.ref b50)])) _
    refine XS.lload X76.here hx rfl (hb hby at_105) rfl ?_
    exact kt
  obtain ⟨cq78, kq78, q78a, q78b, q78c⟩ := isOf hZ e76 f74
  obtain ⟨_, _, ⟨T78, L78, k78, n78⟩, -, X78, ⟨Lc78, hQ78, l78, y78, z78⟩, st78⟩ := X76.virtualBack hx (y := (⟨"com/example/portcullis/portcullis/service/Retention", "due", "(J)Z"⟩ : MethodName)) (z := (⟨"com/example/portcullis/portcullis/service/Retention", "due", "(J)Z"⟩ : MethodName)) hown (mvT hZ (hw _ (List.mem_of_getElem? (i := 30) rfl))) (mvT hZ (hw _ (List.mem_of_getElem? (i := 31) rfl))) (notFace_of_selects (args := #[]) (mvT hZ (hw _ (List.mem_of_getElem? (i := 33) rfl)))) (mvT hZ (hw _ (List.mem_of_getElem? (i := 33) rfl))) (mvT hZ (hw _ (List.mem_of_getElem? (i := 32) rfl))) (by decide) (backOf (W := 0) (rm6 l Z a0 hw [] b50 hd v71 h65 n0 z67 F66) hZ (hw _ (List.mem_of_getElem? (i := 34) rfl)) (hw _ (List.mem_of_getElem? (i := 8) rfl)) (by decide) (by decide)) q78a q78c (g := (mkF m 107 #[.val (.long a1), .second, .val (.long b1), .second, .val (.long hd), .second, .val (.int md), .val (.long (own_pick a1 v42)), .second, .val (.long (own_pick b1 v47)), .second, .val (.ref b50), .val (.long v71), .second, .val (.int (own_due (v71 - (1 : Int64)) v71)), .val (.int (own_due v71 v71)), .unset] [(.long hd), (.ref b50)])) rfl (by rw [hml]; rfl) (Steps.refl _) (argsL := [(.long hd)]) (rest := []) (lenOf pd_4 rfl) rfl (by show 2 * 0 + _ ≤ _; exact Nat.le_of_eq rfl) (hb hby at_107) (fun _ _ => ⟨rfl, e76, (by decide : 1 + 0 ≤ _), (by decide : 1 + 0 ≤ _)⟩)
  dsimp only [Pt.U, Pt.locs, Pt.cells, Pt.slots] at X78 l78 y78 z78 st78 hQ78
  subst l78 y78 z78
  obtain ⟨rfl, N78q, e78⟩ := hQ78
  have N78 := Fr.app N76 N78q
  have S79 : ∀ t, Steps p.tables e below (T78.setTop (mkF m 129 #[.val (.long a1), .second, .val (.long b1), .second, .val (.long hd), .second, .val (.int md), .val (.long (own_pick a1 v42)), .second, .val (.long (own_pick b1 v47)), .second, .val (.ref b50), .val (.long v71), .second, .val (.int (own_due (v71 - (1 : Int64)) v71)), .val (.int (own_due v71 v71)), .val (.int (own_due hd v71))] [(.int (lcmpW hd v71)), (.int (own_due hd v71))])) t → Steps p.tables e below (T78.setTop (mkF m 110 #[.val (.long a1), .second, .val (.long b1), .second, .val (.long hd), .second, .val (.int md), .val (.long (own_pick a1 v42)), .second, .val (.long (own_pick b1 v47)), .second, .val (.ref b50), .val (.long v71), .second, .val (.int (own_due (v71 - (1 : Int64)) v71)), .val (.int (own_due v71 v71)), .unset] [(.int (own_due hd v71))])) t := by
    intro t kt
    show Steps p.tables e below (T78.setTop (mkF m 110 #[.val (.long a1), .second, .val (.long b1), .second, .val (.long hd), .second, .val (.int md), .val (.long (own_pick a1 v42)), .second, .val (.long (own_pick b1 v47)), .second, .val (.ref b50), .val (.long v71), .second, .val (.int (own_due (v71 - (1 : Int64)) v71)), .val (.int (own_due v71 v71)), .unset] [(.int (own_due hd v71))])) _
    refine XS.istore X78.here hx rfl (hb hby at_110) rfl (l' := #[.val (.long a1), .second, .val (.long b1), .second, .val (.long hd), .second, .val (.int md), .val (.long (own_pick a1 v42)), .second, .val (.long (own_pick b1 v47)), .second, .val (.ref b50), .val (.long v71), .second, .val (.int (own_due (v71 - (1 : Int64)) v71)), .val (.int (own_due v71 v71)), .val (.int (own_due hd v71))]) rfl ?_
    show Steps p.tables e below (T78.setTop (mkF m 112 #[.val (.long a1), .second, .val (.long b1), .second, .val (.long hd), .second, .val (.int md), .val (.long (own_pick a1 v42)), .second, .val (.long (own_pick b1 v47)), .second, .val (.ref b50), .val (.long v71), .second, .val (.int (own_due (v71 - (1 : Int64)) v71)), .val (.int (own_due v71 v71)), .val (.int (own_due hd v71))] [])) _
    refine XS.iload X78.here hx rfl (hb hby at_112) rfl ?_
    show Steps p.tables e below (T78.setTop (mkF m 114 #[.val (.long a1), .second, .val (.long b1), .second, .val (.long hd), .second, .val (.int md), .val (.long (own_pick a1 v42)), .second, .val (.long (own_pick b1 v47)), .second, .val (.ref b50), .val (.long v71), .second, .val (.int (own_due (v71 - (1 : Int64)) v71)), .val (.int (own_due v71 v71)), .val (.int (own_due hd v71))] [(.int (own_due (v71 - (1 : Int64)) v71))])) _
    refine XS.ifNo X78.here hx rfl (hb hby at_114) rfl ((if0 _ _).trans (teq (own_due_below v71 hlo)).2) ?_
    show Steps p.tables e below (T78.setTop (mkF m 117 #[.val (.long a1), .second, .val (.long b1), .second, .val (.long hd), .second, .val (.int md), .val (.long (own_pick a1 v42)), .second, .val (.long (own_pick b1 v47)), .second, .val (.ref b50), .val (.long v71), .second, .val (.int (own_due (v71 - (1 : Int64)) v71)), .val (.int (own_due v71 v71)), .val (.int (own_due hd v71))] [])) _
    refine XS.iload X78.here hx rfl (hb hby at_117) rfl ?_
    show Steps p.tables e below (T78.setTop (mkF m 119 #[.val (.long a1), .second, .val (.long b1), .second, .val (.long hd), .second, .val (.int md), .val (.long (own_pick a1 v42)), .second, .val (.long (own_pick b1 v47)), .second, .val (.ref b50), .val (.long v71), .second, .val (.int (own_due (v71 - (1 : Int64)) v71)), .val (.int (own_due v71 v71)), .val (.int (own_due hd v71))] [(.int (own_due v71 v71))])) _
    refine XS.ifNo X78.here hx rfl (hb hby at_119) rfl ((if0 _ _).trans (feq (own_due_at v71)).1) ?_
    show Steps p.tables e below (T78.setTop (mkF m 122 #[.val (.long a1), .second, .val (.long b1), .second, .val (.long hd), .second, .val (.int md), .val (.long (own_pick a1 v42)), .second, .val (.long (own_pick b1 v47)), .second, .val (.ref b50), .val (.long v71), .second, .val (.int (own_due (v71 - (1 : Int64)) v71)), .val (.int (own_due v71 v71)), .val (.int (own_due hd v71))] [])) _
    refine XS.iload X78.here hx rfl (hb hby at_122) rfl ?_
    show Steps p.tables e below (T78.setTop (mkF m 124 #[.val (.long a1), .second, .val (.long b1), .second, .val (.long hd), .second, .val (.int md), .val (.long (own_pick a1 v42)), .second, .val (.long (own_pick b1 v47)), .second, .val (.ref b50), .val (.long v71), .second, .val (.int (own_due (v71 - (1 : Int64)) v71)), .val (.int (own_due v71 v71)), .val (.int (own_due hd v71))] [(.int (own_due hd v71))])) _
    refine XS.lload X78.here hx rfl (hb hby at_124) rfl ?_
    show Steps p.tables e below (T78.setTop (mkF m 126 #[.val (.long a1), .second, .val (.long b1), .second, .val (.long hd), .second, .val (.int md), .val (.long (own_pick a1 v42)), .second, .val (.long (own_pick b1 v47)), .second, .val (.ref b50), .val (.long v71), .second, .val (.int (own_due (v71 - (1 : Int64)) v71)), .val (.int (own_due v71 v71)), .val (.int (own_due hd v71))] [(.long hd), (.int (own_due hd v71))])) _
    refine XS.lload X78.here hx rfl (hb hby at_126) rfl ?_
    show Steps p.tables e below (T78.setTop (mkF m 128 #[.val (.long a1), .second, .val (.long b1), .second, .val (.long hd), .second, .val (.int md), .val (.long (own_pick a1 v42)), .second, .val (.long (own_pick b1 v47)), .second, .val (.ref b50), .val (.long v71), .second, .val (.int (own_due (v71 - (1 : Int64)) v71)), .val (.int (own_due v71 v71)), .val (.int (own_due hd v71))] [(.long v71), (.long hd), (.int (own_due hd v71))])) _
    refine XS.lcmp X78.here hx rfl (hb hby at_128) rfl ?_
    exact kt
  obtain ⟨v82, hv82⟩ : ∃ z : Int32, z = (if hd < v71 then (0 : Int32) else (1 : Int32)) := ⟨_, rfl⟩
  have S81 : ∀ t, Steps p.tables e below (T78.setTop (mkF m 137 #[.val (.long a1), .second, .val (.long b1), .second, .val (.long hd), .second, .val (.int md), .val (.long (own_pick a1 v42)), .second, .val (.long (own_pick b1 v47)), .second, .val (.ref b50), .val (.long v71), .second, .val (.int (own_due (v71 - (1 : Int64)) v71)), .val (.int (own_due v71 v71)), .val (.int (own_due hd v71))] [(.int v82), (.int (own_due hd v71))])) t → Steps p.tables e below (T78.setTop (mkF m 129 #[.val (.long a1), .second, .val (.long b1), .second, .val (.long hd), .second, .val (.int md), .val (.long (own_pick a1 v42)), .second, .val (.long (own_pick b1 v47)), .second, .val (.ref b50), .val (.long v71), .second, .val (.int (own_due (v71 - (1 : Int64)) v71)), .val (.int (own_due v71 v71)), .val (.int (own_due hd v71))] [(.int (lcmpW hd v71)), (.int (own_due hd v71))])) t := by
    intro t kt
    subst hv82
    by_cases hc80 : hd < v71
    · simp only [if_pos hc80] at kt
      show Steps p.tables e below (T78.setTop (mkF m 129 #[.val (.long a1), .second, .val (.long b1), .second, .val (.long hd), .second, .val (.int md), .val (.long (own_pick a1 v42)), .second, .val (.long (own_pick b1 v47)), .second, .val (.ref b50), .val (.long v71), .second, .val (.int (own_due (v71 - (1 : Int64)) v71)), .val (.int (own_due v71 v71)), .val (.int (own_due hd v71))] [(.int (lcmpW hd v71)), (.int (own_due hd v71))])) _
      refine XS.ifYes X78.here hx rfl (pc0 := 129) (pc' := 136) rfl (hb hby at_129) rfl ((if0 _ _).trans (tlt ((lw_lt hd v71).mpr hc80)).1) (by decide) (by decide) ?_
      show Steps p.tables e below (T78.setTop (mkF m 136 #[.val (.long a1), .second, .val (.long b1), .second, .val (.long hd), .second, .val (.int md), .val (.long (own_pick a1 v42)), .second, .val (.long (own_pick b1 v47)), .second, .val (.ref b50), .val (.long v71), .second, .val (.int (own_due (v71 - (1 : Int64)) v71)), .val (.int (own_due v71 v71)), .val (.int (own_due hd v71))] [(.int (own_due hd v71))])) _
      refine XS.iconst X78.here hx rfl (hb hby at_136) ?_
      exact kt
    · simp only [if_neg hc80] at kt
      show Steps p.tables e below (T78.setTop (mkF m 129 #[.val (.long a1), .second, .val (.long b1), .second, .val (.long hd), .second, .val (.int md), .val (.long (own_pick a1 v42)), .second, .val (.long (own_pick b1 v47)), .second, .val (.ref b50), .val (.long v71), .second, .val (.int (own_due (v71 - (1 : Int64)) v71)), .val (.int (own_due v71 v71)), .val (.int (own_due hd v71))] [(.int (lcmpW hd v71)), (.int (own_due hd v71))])) _
      refine XS.ifNo X78.here hx rfl (hb hby at_129) rfl ((if0 _ _).trans (flt (fun q => hc80 ((lw_lt hd v71).mp q))).1) ?_
      show Steps p.tables e below (T78.setTop (mkF m 132 #[.val (.long a1), .second, .val (.long b1), .second, .val (.long hd), .second, .val (.int md), .val (.long (own_pick a1 v42)), .second, .val (.long (own_pick b1 v47)), .second, .val (.ref b50), .val (.long v71), .second, .val (.int (own_due (v71 - (1 : Int64)) v71)), .val (.int (own_due v71 v71)), .val (.int (own_due hd v71))] [(.int (own_due hd v71))])) _
      refine XS.iconst X78.here hx rfl (hb hby at_132) ?_
      show Steps p.tables e below (T78.setTop (mkF m 133 #[.val (.long a1), .second, .val (.long b1), .second, .val (.long hd), .second, .val (.int md), .val (.long (own_pick a1 v42)), .second, .val (.long (own_pick b1 v47)), .second, .val (.ref b50), .val (.long v71), .second, .val (.int (own_due (v71 - (1 : Int64)) v71)), .val (.int (own_due v71 v71)), .val (.int (own_due hd v71))] [(.int (1 : Int32)), (.int (own_due hd v71))])) _
      refine XS.goto X78.here hx rfl (pc0 := 133) (pc' := 137) rfl (hb hby at_133) (by decide) (by decide) ?_
      exact kt
  have S83 : ∀ t, Steps p.tables e below (T78.setTop (mkF m 145 #[.val (.long a1), .second, .val (.long b1), .second, .val (.long hd), .second, .val (.int md), .val (.long (own_pick a1 v42)), .second, .val (.long (own_pick b1 v47)), .second, .val (.ref b50), .val (.long v71), .second, .val (.int (own_due (v71 - (1 : Int64)) v71)), .val (.int (own_due v71 v71)), .val (.int (own_due hd v71))] [(.int (1 : Int32))])) t → Steps p.tables e below (T78.setTop (mkF m 137 #[.val (.long a1), .second, .val (.long b1), .second, .val (.long hd), .second, .val (.int md), .val (.long (own_pick a1 v42)), .second, .val (.long (own_pick b1 v47)), .second, .val (.ref b50), .val (.long v71), .second, .val (.int (own_due (v71 - (1 : Int64)) v71)), .val (.int (own_due v71 v71)), .val (.int (own_due hd v71))] [(.int v82), (.int (own_due hd v71))])) t := by
    intro t kt
    show Steps p.tables e below (T78.setTop (mkF m 137 #[.val (.long a1), .second, .val (.long b1), .second, .val (.long hd), .second, .val (.int md), .val (.long (own_pick a1 v42)), .second, .val (.long (own_pick b1 v47)), .second, .val (.ref b50), .val (.long v71), .second, .val (.int (own_due (v71 - (1 : Int64)) v71)), .val (.int (own_due v71 v71)), .val (.int (own_due hd v71))] [(.int v82), (.int (own_due hd v71))])) _
    refine XS.icmpNo X78.here hx rfl (hb hby at_137) rfl (teq (show own_due hd v71 = v82 from by rw [hv82]; rfl)).2 ?_
    show Steps p.tables e below (T78.setTop (mkF m 140 #[.val (.long a1), .second, .val (.long b1), .second, .val (.long hd), .second, .val (.int md), .val (.long (own_pick a1 v42)), .second, .val (.long (own_pick b1 v47)), .second, .val (.ref b50), .val (.long v71), .second, .val (.int (own_due (v71 - (1 : Int64)) v71)), .val (.int (own_due v71 v71)), .val (.int (own_due hd v71))] [])) _
    refine XS.iconst X78.here hx rfl (hb hby at_140) ?_
    show Steps p.tables e below (T78.setTop (mkF m 141 #[.val (.long a1), .second, .val (.long b1), .second, .val (.long hd), .second, .val (.int md), .val (.long (own_pick a1 v42)), .second, .val (.long (own_pick b1 v47)), .second, .val (.ref b50), .val (.long v71), .second, .val (.int (own_due (v71 - (1 : Int64)) v71)), .val (.int (own_due v71 v71)), .val (.int (own_due hd v71))] [(.int (1 : Int32))])) _
    refine XS.goto X78.here hx rfl (pc0 := 141) (pc' := 145) rfl (hb hby at_141) (by decide) (by decide) ?_
    exact kt
  have C84 : ∀ t, Steps p.tables e below (T78.setTop (mkF m 145 #[.val (.long a1), .second, .val (.long b1), .second, .val (.long hd), .second, .val (.int md), .val (.long (own_pick a1 v42)), .second, .val (.long (own_pick b1 v47)), .second, .val (.ref b50), .val (.long v71), .second, .val (.int (own_due (v71 - (1 : Int64)) v71)), .val (.int (own_due v71 v71)), .val (.int (own_due hd v71))] [(.int (1 : Int32))])) t → Steps p.tables e below (s₁.setTop (mkF m 0 #[.val (.long a1), .second, .val (.long b1), .second, .val (.long hd), .second, .val (.int md), .unset, .unset, .unset, .unset, .unset, .unset, .unset, .unset, .unset, .unset] [])) t := (fun t k => (S39 t (S41 t (st43 t (S44 t (S46 t (st48 t (S49 t (st50 t (S54 t (st55.trans (S59 t (st60.trans (S64 t (st65.trans (S68 t (S70 t (S72 t (st73.trans (S75 t (st76.trans (S77 t (st78.trans (S79 t (S81 t (S83 t k))))))))))))))))))))))))))
  obtain ⟨fs, hr, hrun, hended, hW, hsame⟩ := X78.leave (v := some (.int (1 : Int32))) (fun h => by rw [Bd.returns] at h; cases h)
  refine ⟨_, _, pre0 _ (C84 _ ?_), hrun, hended, _, _, rfl, ?_, ⟨_, rfl⟩, hW, hsame.mono (by decide) (by decide)⟩
  · exact retN X78 hx (t := .boolean) Bd.returns (by simp) (hb hby at_145) hr
  · show Q_rm0 Z a1 b1 hd md h0 n0 _ T78.heap _
    rw [e78]
    exact ⟨rfl, N78⟩
set_option maxRecDepth 65536 in
set_option maxHeartbeats 40000000 in
theorem comes_1 {Post : Tables → Env → Array Value → State → Outcome → State → Prop} (hpost : ∀ tb e args s v u, (limb_1_1.after args s (.returned v) u = true ∧ limb_1_2.after args s (.returned v) u = true ∧ True) → FrameEnd s (.returned v) u (Jvm.fieldLocs frame_1_writes args s ++ Jvm.arrayLocs frame_1_arrays args s ++ Jvm.staticLocs frame_1_statics s) 16 128 → Post tb e args s (.returned v) u) :
    ArmFor flags0 classFile x code maxLocals ret World_1 tables_1 room_1 Calls_1 rest_1 Pre_1 Post := by
  intro l hfl _ _ p e ha hc hk s m args below hf hA hF happ hP
  obtain ⟨hcalls, hrest, hpre⟩ := hP
  obtain ⟨-, -, -, hnamed, -, -, -, hat⟩ := (Spec.applies_iff hf).mp happ
  obtain ⟨hg, hn⟩ := and_e (Cond.before_iff.mp (show (Jvm.Cond.and given_1 narrow_1).before args s = true from hpre))
  obtain ⟨gg1, gg2⟩ := and_e hg
  obtain ⟨gg3, gg4⟩ := and_e gg2
  obtain ⟨gg5, gg6⟩ := and_e gg4
  obtain ⟨gg7, gg8⟩ := and_e gg6
  obtain ⟨w0, w1, w2, w3, rfl⟩ : ∃ w0 w1 w2 w3 : Value, args = #[w0, w1, w2, w3] := by
    have hs : args.size = 4 := by simpa [Cond.value, given_1] using gg1
    obtain ⟨L⟩ := args
    match L, hs with
    | [w0, w1, w2, w3], _ => exact ⟨w0, w1, w2, w3, rfl⟩
  have hw := fun d (hd : d ∈ tables_1) => atoms_spec (ws := Jvm.Cond.code x code maxLocals ret :: tables_1) hat d (List.mem_cons_of_mem _ hd)
  have hfit : Fit s := fun {y c} hc i hi => by
    obtain ⟨ha, rfl⟩ := Array.getElem?_eq_some_iff.mp hc
    have q := List.all_eq_true.mp ((Array.all_eq_true_iff_forall_mem.mp hF) _ (Array.getElem_mem ha)) i (List.mem_range.mpr hi)
    simpa [Array.getElem?_eq_getElem hi] using q
  obtain ⟨i0, ei0⟩ := isL_v gg3
  obtain rfl : w0 = (.long i0) := Option.some.inj ei0
  obtain ⟨i1, ei1⟩ := isL_v gg5
  obtain rfl : w1 = (.long i1) := Option.some.inj ei1
  obtain ⟨i2, ei2⟩ := isL_v gg7
  obtain rfl : w2 = (.long i2) := Option.some.inj ei2
  obtain ⟨i3, ei3⟩ := is_v gg8
  obtain rfl : w3 = (.int i3) := Option.some.inj ei3
  obtain ⟨n, o, h1, h2, h3, _, L, rfl, ⟨rfl, N⟩, hq⟩ := rm0 l s _ hw tables_1 i0 i1 i2 i3 s.heap s.heap.size (Nat.le_refl _)  p e ha hc hk s m _ below hf ((Spec.applies_iff_loose hf).mp happ).1 ⟨rfl, State.Warmed39.refl s, rfl⟩ trivial
  refine ⟨n, _, h1, h2, h3, hpost _ _ _ _ _ _ ⟨Cond.after_iff.mpr rfl, Cond.after_iff.mpr (eq_i res_at (Term.int_eval (1)) rfl), trivial⟩ ⟨hq.1, hq.2.1, (hq.2.2.sift fun y hy => Or.inr (N y hy)).mono (by decide) (by decide)⟩⟩
theorem main_1_1 : Claimed_1_1 := comes_1 fun _ _ _ _ _ _ h hF => ⟨h.1, hF⟩
theorem main_1_2 : Claimed_1_2 := comes_1 fun _ _ _ _ _ _ h hF => ⟨h.2.1, hF⟩
end Jvm.Pilot.@@N@@
namespace Jvm.Pilot.@@N@@
open Jvm Jvm.ClassFile Sem Op Lib Jvm.Free Jvm.Stand Jvm.Pilot.@@N@@.Jvm.D
/-! MADE BY PROGRAM (witnessworld.py) out of the Statement's table words and the real class files: 10 classes; the members and pool entries that the words name. The judged class is class 1, her method 2. -/
namespace start1
open Jvm.ClassFile
def u (s : String) : CpInfo := .utf8 (stringToUtf16 s)
/-- a pool by its gaps: so many unusable entries, then the entry; so many at the end -/
def gap : Nat → List CpInfo → List CpInfo
  | 0, r => r
  | n + 1, r => .unusable :: gap n r
def poolList (es : List (Nat × CpInfo)) (last : Nat) : List CpInfo := es.foldr (fun e r => gap e.1 (e.2 :: r)) (gap last [])
def pool (es : List (Nat × CpInfo)) (last : Nat) : Array CpInfo := ⟨poolList es last⟩
def fileOf (pool : Array CpInfo) (this : Nat) (attrs : Array Attribute := #[]) (ms : Array MethodInfo := #[]) (fl : Nat := 33) (sup : Nat := 0) (ifs : Array Nat := #[]) (fds : Array FieldInfo := #[]) : ClassFile where
  minorVersion := 0
  majorVersion := 65
  constantPool := pool
  accessFlags := fl
  thisClass := this
  superClass := sup
  interfaces := ifs
  fields := fds
  methods := ms
  attributes := attrs
def plain (name : String) (sup : Option ClassId) : Class where
  name := name
  kind := .ordinary
  loader := none
  accessFlags := 33
  super := sup
  interfaces := #[]
  cf := none
  fields := #[]
  methods := #[]
  instanceTypes := #[]
  staticTypes := #[]
  resolved := #[]
  callSites := []
  init := .initialized
  statics := none
  mirror := none

def pool0 : Array CpInfo := pool [(5, u "<init>"), (0, u "()V"), (1, .class_ 10), (1, u "java/lang/Object")] 113

def k0c0 : Code := { maxStack := 0, maxLocals := 1, code := object_method_1_code, exceptionTable := #[], attributes := #[] }
def k0m0 : Method := { name := "<init>", desc := "()V", sig := { parameters := [], returnType := none }, accessFlags := 1, code := some k0c0 }
/-- java/lang/Object -/
def k0 : Class := { plain "java/lang/Object" none with
  accessFlags := 33
  interfaces := #[]
  cf := some (fileOf pool0 8 #[] #[{ accessFlags := 1, nameIndex := 5, descriptorIndex := 6, attributes := #[] }] 33 0 #[] #[])
  fields := #[]
  methods := #[k0m0]
  instanceTypes := #[]
  staticTypes := #[]
  resolved := Array.replicate 124 none
  statics := none }

def pool1 : Array CpInfo := pool [(2, .class_ 4), (0, .nameAndType 5 6), (0, u "java/lang/Object"), (0, u "<init>"), (0, u "()V"), (0, .long 2047), (1, .long 4611686018427387903), (1, .methodref 12 13), (0, .class_ 14), (0, .nameAndType 15 16), (0, u "com/example/portcullis/portcullis/service/RetentionLookedPinLaw"), (0, u "pick"), (0, u "(JZ)J"), (0, .class_ 18), (0, u "com/example/portcullis/portcullis/service/Retention"), (0, .methodref 17 3), (0, .methodref 17 21), (0, .nameAndType 22 23), (0, u "looked"), (0, u "(J)V"), (0, .long 512), (1, .long 1024), (1, .methodref 17 29), (0, .nameAndType 30 31), (0, u "due"), (0, u "(J)Z"), (3, u "law"), (0, u "(JJJI)Z")] 2

def k1m0 : Method := { name := "<init>", desc := "()V", sig := { parameters := [], returnType := none }, accessFlags := 1, code := none }
def k1c1 : Code := { maxStack := 4, maxLocals := 3, code := method_2_code, exceptionTable := #[], attributes := #[] }
def k1m1 : Method := { name := "pick", desc := "(JZ)J", sig := { parameters := [.long, .boolean], returnType := some .long }, accessFlags := 10, code := some k1c1 }
def k1c2 : Code := { maxStack := 5, maxLocals := 17, code := code, exceptionTable := #[], attributes := #[] }
def k1m2 : Method := { name := "law", desc := "(JJJI)Z", sig := { parameters := [.long, .long, .long, .int], returnType := some .boolean }, accessFlags := 9, code := some k1c2 }
/-- com/example/portcullis/portcullis/service/RetentionLookedPinLaw -/
def k1 : Class := { plain "com/example/portcullis/portcullis/service/RetentionLookedPinLaw" (some 0) with
  accessFlags := 49
  interfaces := #[]
  cf := some (fileOf pool1 12 #[] #[{ accessFlags := 1, nameIndex := 5, descriptorIndex := 6, attributes := #[] }, { accessFlags := 10, nameIndex := 15, descriptorIndex := 16, attributes := #[] }, { accessFlags := 9, nameIndex := 35, descriptorIndex := 36, attributes := #[] }] 49 2 #[] #[])
  fields := #[]
  methods := #[k1m0, k1m1, k1m2]
  instanceTypes := #[]
  staticTypes := #[]
  resolved := Array.replicate 39 none
  statics := none }

def pool2 : Array CpInfo := pool [(1, .methodref 2 3), (0, .class_ 4), (0, .nameAndType 5 6), (0, u "java/lang/Object"), (0, u "<init>"), (0, u "()V"), (0, .class_ 8), (0, u "com/example/portcullis/portcullis/service/Retention"), (0, .long 1024), (1, .fieldref 7 12), (0, .nameAndType 13 14), (0, u "lookAt"), (0, u "J"), (6, .long 2), (1, .methodref 24 25), (0, .class_ 26), (0, .nameAndType 27 28), (0, u "java/lang/Math"), (0, u "max"), (0, u "(JJ)J"), (0, u "FIRST_LOOK"), (0, u "I"), (7, u "due"), (0, u "(J)Z"), (0, u "looked"), (0, u "(J)V")] 2

def k2c0 : Code := { maxStack := 3, maxLocals := 1, code := prog_15_method_1_code, exceptionTable := #[], attributes := #[] }
def k2m0 : Method := { name := "<init>", desc := "()V", sig := { parameters := [], returnType := none }, accessFlags := 1, code := some k2c0 }
def k2c1 : Code := { maxStack := 4, maxLocals := 3, code := prog_15_method_3_code, exceptionTable := #[], attributes := #[] }
def k2m1 : Method := { name := "due", desc := "(J)Z", sig := { parameters := [.long], returnType := some .boolean }, accessFlags := 1, code := some k2c1 }
def k2c2 : Code := { maxStack := 7, maxLocals := 3, code := prog_15_method_4_code, exceptionTable := #[], attributes := #[] }
def k2m2 : Method := { name := "looked", desc := "(J)V", sig := { parameters := [.long], returnType := none }, accessFlags := 1, code := some k2c2 }
/-- com/example/portcullis/portcullis/service/Retention -/
def k2 : Class := { plain "com/example/portcullis/portcullis/service/Retention" (some 0) with
  accessFlags := 49
  interfaces := #[]
  cf := some (fileOf pool2 7 #[] #[{ accessFlags := 1, nameIndex := 5, descriptorIndex := 6, attributes := #[] }, { accessFlags := 1, nameIndex := 38, descriptorIndex := 39, attributes := #[] }, { accessFlags := 1, nameIndex := 40, descriptorIndex := 41, attributes := #[] }] 49 2 #[] #[{ accessFlags := 24, nameIndex := 29, descriptorIndex := 30, attributes := #[] }, { accessFlags := 2, nameIndex := 13, descriptorIndex := 14, attributes := #[] }])
  fields := #[{ name := "FIRST_LOOK", type := .int, accessFlags := 24, slot := 0, constantValue := 0 }, { name := "lookAt", type := .long, accessFlags := 2, slot := 0, constantValue := 0 }]
  methods := #[k2m0, k2m1, k2m2]
  instanceTypes := #[.long]
  staticTypes := #[.int]
  resolved := Array.replicate 44 none
  statics := none }

def pool3 : Array CpInfo := pool [(1, .class_ 2), (0, u "java/lang/Math"), (1, .class_ 6), (1, u "java/lang/Object"), (0, u "<init>"), (0, u "()V"), (89, .class_ 100), (1, u "java/lang/Math$RandomNumberGeneratorHolder"), (20, u "(JJ)J"), (50, u "negativeZeroFloatBits"), (0, u "J"), (2, u "negativeZeroDoubleBits"), (21, u "max"), (46, u "$assertionsDisabled"), (0, u "Z"), (91, u "twoToTheDoubleScaleDown"), (0, u "D"), (4, u "twoToTheDoubleScaleUp"), (9, u "E"), (3, u "PI"), (2, u "TAU"), (2, u "DEGREES_TO_RADIANS"), (0, u "RADIANS_TO_DEGREES")] 94

def k3m0 : Method := { name := "<init>", desc := "()V", sig := { parameters := [], returnType := none }, accessFlags := 2, code := none }
def k3c1 : Code := { maxStack := 4, maxLocals := 4, code := jdk_29_method_66_code, exceptionTable := #[], attributes := #[] }
def k3m1 : Method := { name := "max", desc := "(JJ)J", sig := { parameters := [.long, .long], returnType := some .long }, accessFlags := 9, code := some k3c1 }
/-- java/lang/Math -/
def k3 : Class := { plain "java/lang/Math" (some 0) with
  accessFlags := 49
  interfaces := #[]
  cf := some (fileOf pool3 1 #[.nestMembers #[98]] #[{ accessFlags := 2, nameIndex := 7, descriptorIndex := 8, attributes := #[] }, { accessFlags := 9, nameIndex := 198, descriptorIndex := 121, attributes := #[] }] 49 4 #[] #[{ accessFlags := 25, nameIndex := 354, descriptorIndex := 339, attributes := #[] }, { accessFlags := 25, nameIndex := 358, descriptorIndex := 339, attributes := #[] }, { accessFlags := 25, nameIndex := 361, descriptorIndex := 339, attributes := #[] }, { accessFlags := 26, nameIndex := 364, descriptorIndex := 339, attributes := #[] }, { accessFlags := 26, nameIndex := 365, descriptorIndex := 339, attributes := #[] }, { accessFlags := 26, nameIndex := 172, descriptorIndex := 173, attributes := #[] }, { accessFlags := 26, nameIndex := 176, descriptorIndex := 173, attributes := #[] }, { accessFlags := 8, nameIndex := 344, descriptorIndex := 339, attributes := #[] }, { accessFlags := 8, nameIndex := 338, descriptorIndex := 339, attributes := #[] }, { accessFlags := 4120, nameIndex := 245, descriptorIndex := 246, attributes := #[] }])
  fields := #[{ name := "E", type := .double, accessFlags := 25, slot := 0, constantValue := 0 }, { name := "PI", type := .double, accessFlags := 25, slot := 1, constantValue := 0 }, { name := "TAU", type := .double, accessFlags := 25, slot := 2, constantValue := 0 }, { name := "DEGREES_TO_RADIANS", type := .double, accessFlags := 26, slot := 3, constantValue := 0 }, { name := "RADIANS_TO_DEGREES", type := .double, accessFlags := 26, slot := 4, constantValue := 0 }, { name := "negativeZeroFloatBits", type := .long, accessFlags := 26, slot := 5, constantValue := 0 }, { name := "negativeZeroDoubleBits", type := .long, accessFlags := 26, slot := 6, constantValue := 0 }, { name := "twoToTheDoubleScaleUp", type := .double, accessFlags := 8, slot := 7, constantValue := 0 }, { name := "twoToTheDoubleScaleDown", type := .double, accessFlags := 8, slot := 8, constantValue := 0 }, { name := "$assertionsDisabled", type := .boolean, accessFlags := 4120, slot := 9, constantValue := 0 }]
  methods := #[k3m0, k3m1]
  instanceTypes := #[]
  staticTypes := #[.double, .double, .double, .double, .double, .long, .long, .double, .double, .boolean]
  resolved := Array.replicate 460 none
  statics := none }

def pool4 : Array CpInfo := pool [(1, u "java/lang/Cloneable"), (0, .class_ 1), (0, u "java/lang/Object"), (0, .class_ 3)] 3

/-- java/lang/Cloneable -/
def k4 : Class := { plain "java/lang/Cloneable" (some 0) with
  accessFlags := 1537
  interfaces := #[]
  cf := some (fileOf pool4 2 #[] #[] 1537 4 #[] #[])
  fields := #[]
  methods := #[]
  instanceTypes := #[]
  staticTypes := #[]
  resolved := Array.replicate 8 none
  statics := none }

def pool5 : Array CpInfo := pool [(1, u "java/io/Serializable"), (0, .class_ 1), (0, u "java/lang/Object"), (0, .class_ 3)] 3

/-- java/io/Serializable -/
def k5 : Class := { plain "java/io/Serializable" (some 0) with
  accessFlags := 1537
  interfaces := #[]
  cf := some (fileOf pool5 2 #[] #[] 1537 4 #[] #[])
  fields := #[]
  methods := #[]
  instanceTypes := #[]
  staticTypes := #[]
  resolved := Array.replicate 8 none
  statics := none }

/-- the primitive byte -/
def k6 : Class := { plain "byte" none with kind := .primitive 'B', accessFlags := 0x411 }
/-- [B -/
def k7 : Class := { plain "[B" (some 0) with kind := .array 6 .byte, interfaces := #[4, 5], accessFlags := 1041 }

/-- the primitive int -/
def k8 : Class := { plain "int" none with kind := .primitive 'I', accessFlags := 0x411 }
/-- [I -/
def k9 : Class := { plain "[I" (some 0) with kind := .array 8 .int, interfaces := #[4, 5], accessFlags := 1041 }

def heap : Heap := #[]
def classes : Array Class := #[k0, k1, k2, k3, k4, k5, k6, k7, k8, k9]
def interned : List (Array UInt16 × Addr) := []
def slotsUsed : Nat := 0
def theMethod : MethodId := ⟨1, 2⟩
def args0 : Array Value := #[.long 5, .long 7, .long 700, .int 3]
def aboutOver (below : List Frame) : State where
  vm := { classes := classes, interned := interned.toArray }
  heap := heap
  slotsUsed := slotsUsed
  threads := #[{ frames := .invoking theMethod args0 :: below }]
def below0 : List Frame := [.native { method := ⟨0, 0⟩, args := #[] }]
def about1 : State := aboutOver below0
def p0 : Program := .bare "" "" ""
def e0 : Env := launch0.env 0 0 0
theorem w_frames : about1.frames = Frame.invoking theMethod args0 :: below0 := rfl
set_option maxRecDepth 65536 in
theorem w_args : argsFit about1.vm theMethod args0 = true := by decide +kernel
set_option maxRecDepth 65536 in
theorem w_heap : heapFits about1 = true := by decide +kernel
set_option maxRecDepth 65536 in
theorem w_runnable : about1.curStatus? = some .runnable := by decide +kernel
set_option maxRecDepth 65536 in
theorem w_alone : about1.alone = true := by decide +kernel
set_option maxRecDepth 65536 in
theorem w_named : about1.methodNamed? x = some theMethod := by decide +kernel
set_option maxRecDepth 65536 in
theorem w_hears : about1.hears theMethod below0 = true := by decide +kernel
set_option maxRecDepth 65536 in
theorem w_ripe : about1.ripe theMethod args0 below0 = true := by decide +kernel
theorem w_running : about1.status = .running := rfl
set_option maxRecDepth 65536 in
theorem w_room : about1.hasRoom e0.platform room_1 = true :=
  launch0.hasRoom_least _ room_1 (by decide +kernel) (by decide +kernel) (by decide +kernel) (by decide +kernel) (by decide +kernel) (by decide +kernel)
theorem allAtoms_all (ts : List Jvm.Cond) (a : Array Jvm.Value) (st : Jvm.State) : (allAtoms ts).before a st = ts.all (fun c => c.before a st) := by
  induction ts with
  | nil => rfl
  | cons c t ih =>
    show (Jvm.Cond.and c (allAtoms t)).before a st = _
    rw [Jvm.Cond.before_and, ih, List.all_cons]
def words1 : List Jvm.Cond := Jvm.Cond.code x code maxLocals ret :: tables_1
/-- a 'code' word, met by the world's own term for the bytes: nothing is compared byte by byte -/
theorem code_word {y : MethodName} {bytes : ByteArray} {mx : Nat} {rt : Option FieldType} {a : Array Value} {s : State} {m : MethodId} {meth : Method} {c : Code} (h1 : s.methodNamed? y = some m) (h2 : s.vm.method? m = some meth) (h3 : meth.code = some c) (h4 : c.code = bytes)
    (h5 : (c.maxLocals == mx && c.exceptionTable.isEmpty && decide (c.maxStack ≤ mostOperands) && decide (meth.sig.returnType = rt) && !meth.locks && decide (parseMethodDescriptor y.desc = some meth.sig)) = true) : (Jvm.Cond.code y bytes mx rt).before a s = true := by
  simp only [Bool.and_eq_true, beq_iff_eq, Bool.not_eq_true', decide_eq_true_eq] at h5
  obtain ⟨⟨⟨⟨⟨g1, g2⟩, g3⟩, g4⟩, g5⟩, g6⟩ := h5
  simp [Cond.before, Cond.holds, Cond.value, h1, h2, h3, h4, g1, g2, g3, g4, g5, g6]
def isCode : Jvm.Cond → Bool
  | .code _ _ _ _ => true
  | _ => false
theorem all_split {L : List Jvm.Cond} {P : Jvm.Cond → Bool} (h1 : L.all (fun c => isCode c || P c) = true) (h2 : ∀ c ∈ L.filter isCode, P c = true) : L.all P = true := by
  refine List.all_eq_true.mpr fun c hc => ?_
  have h := List.all_eq_true.mp h1 c hc
  rcases Bool.eq_false_or_eq_true (isCode c) with hi | hi
  · exact h2 c (List.mem_filter.mpr ⟨hc, hi⟩)
  · simpa [hi] using h
set_option maxRecDepth 65536 in
theorem w_c0 : (Jvm.Cond.code x code maxLocals ret).before args0 about1 = true := code_word (m := ⟨1, 2⟩) (meth := k1m2) (c := k1c2) (by decide +kernel) rfl rfl rfl (by decide +kernel)
set_option maxRecDepth 65536 in
theorem w_c1 : (Jvm.Cond.code ({ cls := "com/example/portcullis/portcullis/service/RetentionLookedPinLaw", name := "pick", desc := "(JZ)J" } : Jvm.MethodName) method_2_code (3 : Nat) (Option.some Jvm.ClassFile.FieldType.long)).before args0 about1 = true := code_word (m := ⟨1, 1⟩) (meth := k1m1) (c := k1c1) (by decide +kernel) rfl rfl rfl (by decide +kernel)
set_option maxRecDepth 65536 in
theorem w_c2 : (Jvm.Cond.code ({ cls := "com/example/portcullis/portcullis/service/Retention", name := "<init>", desc := "()V" } : Jvm.MethodName) prog_15_method_1_code (1 : Nat) (Option.none : Option Jvm.ClassFile.FieldType)).before args0 about1 = true := code_word (m := ⟨2, 0⟩) (meth := k2m0) (c := k2c0) (by decide +kernel) rfl rfl rfl (by decide +kernel)
set_option maxRecDepth 65536 in
theorem w_c3 : (Jvm.Cond.code ({ cls := "java/lang/Object", name := "<init>", desc := "()V" } : Jvm.MethodName) object_method_1_code (1 : Nat) (Option.none : Option Jvm.ClassFile.FieldType)).before args0 about1 = true := code_word (m := ⟨0, 0⟩) (meth := k0m0) (c := k0c0) (by decide +kernel) rfl rfl rfl (by decide +kernel)
set_option maxRecDepth 65536 in
theorem w_c4 : (Jvm.Cond.code ({ cls := "com/example/portcullis/portcullis/service/Retention", name := "looked", desc := "(J)V" } : Jvm.MethodName) prog_15_method_4_code (3 : Nat) (Option.none : Option Jvm.ClassFile.FieldType)).before args0 about1 = true := code_word (m := ⟨2, 2⟩) (meth := k2m2) (c := k2c2) (by decide +kernel) rfl rfl rfl (by decide +kernel)
set_option maxRecDepth 65536 in
theorem w_c5 : (Jvm.Cond.code ({ cls := "java/lang/Math", name := "max", desc := "(JJ)J" } : Jvm.MethodName) jdk_29_method_66_code (4 : Nat) (Option.some Jvm.ClassFile.FieldType.long)).before args0 about1 = true := code_word (m := ⟨3, 1⟩) (meth := k3m1) (c := k3c1) (by decide +kernel) rfl rfl rfl (by decide +kernel)
set_option maxRecDepth 65536 in
theorem w_c6 : (Jvm.Cond.code ({ cls := "com/example/portcullis/portcullis/service/Retention", name := "due", desc := "(J)Z" } : Jvm.MethodName) prog_15_method_3_code (3 : Nat) (Option.some Jvm.ClassFile.FieldType.boolean)).before args0 about1 = true := code_word (m := ⟨2, 1⟩) (meth := k2m1) (c := k2c1) (by decide +kernel) rfl rfl rfl (by decide +kernel)
def codes1 : List Jvm.Cond := [Jvm.Cond.code x code maxLocals ret, Jvm.Cond.code ({ cls := "com/example/portcullis/portcullis/service/RetentionLookedPinLaw", name := "pick", desc := "(JZ)J" } : Jvm.MethodName) method_2_code (3 : Nat) (Option.some Jvm.ClassFile.FieldType.long), Jvm.Cond.code ({ cls := "com/example/portcullis/portcullis/service/Retention", name := "<init>", desc := "()V" } : Jvm.MethodName) prog_15_method_1_code (1 : Nat) (Option.none : Option Jvm.ClassFile.FieldType), Jvm.Cond.code ({ cls := "java/lang/Object", name := "<init>", desc := "()V" } : Jvm.MethodName) object_method_1_code (1 : Nat) (Option.none : Option Jvm.ClassFile.FieldType), Jvm.Cond.code ({ cls := "com/example/portcullis/portcullis/service/Retention", name := "looked", desc := "(J)V" } : Jvm.MethodName) prog_15_method_4_code (3 : Nat) (Option.none : Option Jvm.ClassFile.FieldType), Jvm.Cond.code ({ cls := "java/lang/Math", name := "max", desc := "(JJ)J" } : Jvm.MethodName) jdk_29_method_66_code (4 : Nat) (Option.some Jvm.ClassFile.FieldType.long), Jvm.Cond.code ({ cls := "com/example/portcullis/portcullis/service/Retention", name := "due", desc := "(J)Z" } : Jvm.MethodName) prog_15_method_3_code (3 : Nat) (Option.some Jvm.ClassFile.FieldType.boolean)]
set_option maxRecDepth 65536 in
theorem codes_eq : words1.filter isCode = codes1 := rfl
theorem w_codes : ∀ c ∈ words1.filter isCode, c.before args0 about1 = true := by
  rw [codes_eq]
  intro c hc
  simp only [codes1, List.mem_cons, List.not_mem_nil, or_false] at hc
  rcases hc with rfl | rfl | rfl | rfl | rfl | rfl | rfl
  · exact w_c0
  · exact w_c1
  · exact w_c2
  · exact w_c3
  · exact w_c4
  · exact w_c5
  · exact w_c6
set_option maxRecDepth 65536 in
theorem w_t1 : (words1.take 24).all (fun c => isCode c || c.before args0 about1) = true := by decide +kernel
set_option maxRecDepth 65536 in
theorem w_t2 : (words1.drop 24).all (fun c => isCode c || c.before args0 about1) = true := by decide +kernel
theorem w_tables : (allAtoms (Jvm.Cond.code x code maxLocals ret :: tables_1)).before args0 about1 = true := by
  rw [allAtoms_all]
  show words1.all (fun c => c.before args0 about1) = true
  refine all_split ?_ w_codes
  rw [← List.take_append_drop 24 words1, List.all_append, w_t1, w_t2]
  rfl
set_option maxRecDepth 65536 in
theorem w_case : (Jvm.Cond.and given_1 narrow_1).before args0 about1 = true := by decide +kernel
theorem w_applies : (headSpec (Jvm.Cond.code x code maxLocals ret :: tables_1) room_1).applies x e0.platform about1 = true :=
  (Spec.applies_iff w_frames).mpr ⟨w_running, w_runnable, w_alone, w_named, w_hears, w_ripe, w_room, w_tables⟩
theorem atStart : AtStart classFile x code maxLocals ret World_1 tables_1 room_1 Calls_1 rest_1 Pre_1 launch0 p0 e0 about1 theMethod args0 below0 :=
  ⟨lists_1, trivial, launch0.admits_env _ _ _, launch0.least_env, fairChoices_fair.cas, fairChoices_fair.clock, w_frames, w_args, w_heap, w_applies, trivial, trivial, w_case⟩
end start1
theorem witness_1 : WitnessClaimed_1 := ⟨start1.p0, start1.e0, start1.about1, start1.theMethod, start1.args0, start1.below0, start1.atStart⟩
end Jvm.Pilot.@@N@@
