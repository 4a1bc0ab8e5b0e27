import JvmDerived
import JvmDerived.Pilot.@@N@@Statement
import JvmDerived.Pilot.@@N@@Code
set_option linter.unusedVariables false
set_option linter.unusedSimpArgs false
namespace Jvm.RoadKit
theorem own_add32 {a b : Int32} (h1 : -2147483648 ≤ a.toInt + b.toInt) (h2 : a.toInt + b.toInt < 2147483648) : (a + b).toInt = a.toInt + b.toInt := by
  rw [Int32.toInt_add]; exact Int.bmod_eq_of_le (by omega) (by omega)
theorem own_sub32 {a b : Int32} (h1 : -2147483648 ≤ a.toInt - b.toInt) (h2 : a.toInt - b.toInt < 2147483648) : (a - b).toInt = a.toInt - b.toInt := by
  rw [Int32.toInt_sub]; exact Int.bmod_eq_of_le (by omega) (by omega)
theorem own_mul32 {a b : Int32} (h1 : -2147483648 ≤ a.toInt * b.toInt) (h2 : a.toInt * b.toInt < 2147483648) : (a * b).toInt = a.toInt * b.toInt := by
  rw [Int32.toInt_mul]; exact Int.bmod_eq_of_le (by omega) (by omega)
theorem own_add64 {a b : Int64} (h1 : -9223372036854775808 ≤ a.toInt + b.toInt) (h2 : a.toInt + b.toInt < 9223372036854775808) : (a + b).toInt = a.toInt + b.toInt := by
  rw [Int64.toInt_add]; exact Int.bmod_eq_of_le (by omega) (by omega)
theorem own_sub64 {a b : Int64} (h1 : -9223372036854775808 ≤ a.toInt - b.toInt) (h2 : a.toInt - b.toInt < 9223372036854775808) : (a - b).toInt = a.toInt - b.toInt := by
  rw [Int64.toInt_sub]; exact Int.bmod_eq_of_le (by omega) (by omega)
theorem own_mul64 {a b : Int64} (h1 : -9223372036854775808 ≤ a.toInt * b.toInt) (h2 : a.toInt * b.toInt < 9223372036854775808) : (a * b).toInt = a.toInt * b.toInt := by
  rw [Int64.toInt_mul]; exact Int.bmod_eq_of_le (by omega) (by omega)
/-- a mask that isn't negative -/
theorem own_mask32 (x k : Int32) (hk : 0 ≤ k.toInt) : 0 ≤ (x &&& k).toInt ∧ (x &&& k).toInt ≤ k.toInt := by
  have hk' : k.toBitVec.toNat < 2 ^ 31 := by
    have := k.toBitVec.isLt
    have e : k.toInt = k.toBitVec.toInt := rfl
    rw [e, BitVec.toInt_eq_toNat_cond] at hk
    split at hk <;> omega
  have h1 : (x &&& k).toInt = (x.toBitVec &&& k.toBitVec).toInt := rfl
  have h2 : (x.toBitVec &&& k.toBitVec).toNat ≤ k.toBitVec.toNat := by rw [BitVec.toNat_and]; exact Nat.and_le_right
  have e : k.toInt = k.toBitVec.toInt := rfl
  rw [h1, e, BitVec.toInt_eq_toNat_of_lt (by omega), BitVec.toInt_eq_toNat_of_lt (by omega)]; omega
theorem own_mask64 (x k : Int64) (hk : 0 ≤ k.toInt) : 0 ≤ (x &&& k).toInt ∧ (x &&& k).toInt ≤ k.toInt := by
  have hk' : k.toBitVec.toNat < 2 ^ 63 := by
    have := k.toBitVec.isLt
    have e : k.toInt = k.toBitVec.toInt := rfl
    rw [e, BitVec.toInt_eq_toNat_cond] at hk
    split at hk <;> omega
  have h1 : (x &&& k).toInt = (x.toBitVec &&& k.toBitVec).toInt := rfl
  have h2 : (x.toBitVec &&& k.toBitVec).toNat ≤ k.toBitVec.toNat := by rw [BitVec.toNat_and]; exact Nat.and_le_right
  have e : k.toInt = k.toBitVec.toInt := rfl
  rw [h1, e, BitVec.toInt_eq_toNat_of_lt (by omega), BitVec.toInt_eq_toNat_of_lt (by omega)]; omega
end Jvm.RoadKit
namespace Jvm.RoadKit
open Sem ClassFile Op Lib Jvm.Stand Jvm.Free Jvm.LawKit
section Own
variable {p : Program} {l : Launch} {e : Env} {R : Room} {s : State} {m : MethodId} {args : Array Value} {below : List Frame} {meth : Method} {c : Code} {T : State} {locs : List Loc} {cells slots : Nat} {Z : State} {h h' : Heap} {a b : Addr} {ty : FieldType} {n : Nat} {f f' : Nat → Value} {sl : Nat} {v : Value} {ws : List Addr}
/-- an array of n places, place i holds f i -/
def ArF (Z : State) (h : Heap) (a : Addr) (ty : FieldType) (n : Nat) (f : Nat → Value) : Prop := ∃ c : Cell, Arr Z h a c ty ∧ c.slots.size = n ∧ n < 2 ^ 31 ∧ ∀ i, i < n → c.slots[i]? = some (f i)
theorem ArF.lt (F : ArF Z h a ty n f) : a < h.size := by obtain ⟨c, A, -⟩ := F; exact A.lt
theorem ArF.ext (F : ArF Z h a ty n f) (E : Ext h h') : ArF Z h' a ty n f := by obtain ⟨c, A, r⟩ := F; exact ⟨c, A.ext E, r⟩
theorem ArF.other (F : ArF Z h a ty n f) (W : Wr h h' b sl v) (q : a ≠ b) : ArF Z h' a ty n f := by obtain ⟨c, A, r⟩ := F; exact ⟨c, A.other W q, r⟩
theorem ArF.keep (F : ArF Z h a ty n f) (K : Keep h h' ws) (q : a ∉ ws) : ArF Z h' a ty n f := by obtain ⟨c, A, r⟩ := F; exact ⟨c, ⟨K.2.1 a c A.1 q, A.2⟩, r⟩
theorem ArF.congr (F : ArF Z h a ty n f) (q : ∀ i, i < n → f i = f' i) : ArF Z h a ty n f' := by obtain ⟨c, A, r1, r2, r3⟩ := F; exact ⟨c, A, r1, r2, fun i hi => by rw [← q i hi]; exact r3 i hi⟩
theorem ArF.new {k : ClassId} {z : Int32} {dv : Value} (A : Arr Z h a (newA k ty z) ty) (q : ¬ z < 0) (hn : z.toNatClampNeg = n) (hdv : defaultValue ty = dv := by rfl) : ArF Z h a ty n (fun _ => dv) := by
  subst hn hdv
  refine ⟨_, A, sz_new _ _ _, (back32 q).2, fun i hi => ?_⟩
  simp [newA, hi]
theorem own_clamp {j : Int32} {i : Nat} (hj : j.toInt = (i : Int)) : j.toNatClampNeg = i := by
  show j.toInt.toNat = i
  rw [hj]; rfl
theorem own_inb {c : Cell} {j : Int32} {i : Nat} (S : c.slots.size = n) (hj : j.toInt = (i : Int)) (hi : i < n) : ¬ (j < 0 ∨ c.slots.size ≤ j.toNatClampNeg) := by
  rw [own_clamp hj, S]
  rintro (q | q)
  · rw [Int32.lt_iff_toInt_lt, hj] at q
    have : (0 : Int32).toInt = 0 := by decide
    omega
  · omega
theorem ArF.setW {i : Nat} {c : Cell} (A : Arr Z h a c ty) (S : c.slots.size = n) (q3 : n < 2 ^ 31) (H : ∀ k, k < n → c.slots[k]? = some (f k)) (W : Wr h h' a i v) : ArF Z h' a ty n (fun q => if q = i then v else f q) := by
  refine ⟨_, A.same W, by rw [sz_set, S], q3, fun k hk => ?_⟩
  by_cases e : k = i
  · subst e; simp [Cell.setSlot, S, hk]
  · simp only [if_neg e, Cell.setSlot]
    rw [Array.getElem?_setIfInBounds_ne (Ne.symm e)]; exact H k hk
theorem ArF.stI (X : Stand p l e R s m args below meth c T locs cells slots) (hx : p.tables.exec = Jvm.exec) (hZ : Z.Warmed39 s.vm) (eT : T.heap = h) (F : ArF Z h a .int n f) {j x : Int32} {i : Nat} (hj : j.toInt = (i : Int)) (hi : i < n) {g : JFrame} (hg : g.method = m) {rest : List Value} (hs : g.stack = .int x :: .int j :: .ref a :: rest) (hd : decode c.code g.pc = .ok (.iastore, 1)) :
    ∃ T' h', Stand p l e R s m args below meth c T' (locs ++ [⟨a, i⟩]) cells slots ∧ T'.heap = h' ∧ Wr h h' a i (.int x) ∧ ArF Z h' a .int n (fun q => if q = i then .int x else f q) ∧ ∀ target, Steps p.tables e below (T'.setTop { g with pc := g.pc + 1, stack := rest }) target → Steps p.tables e below (T.setTop g) target := by
  obtain ⟨c, A, S, q3, H⟩ := F
  obtain ⟨T', h', X', e', W, st⟩ := Jvm.RoadKit.stI X hx hZ eT A (own_inb S hj hi) hg hs hd
  rw [own_clamp hj] at X' W
  exact ⟨T', h', X', e', W, ArF.setW A S q3 H W, st⟩
theorem ArF.stJ (X : Stand p l e R s m args below meth c T locs cells slots) (hx : p.tables.exec = Jvm.exec) (hZ : Z.Warmed39 s.vm) (eT : T.heap = h) (F : ArF Z h a .long n f) {j : Int32} {x : Int64} {i : Nat} (hj : j.toInt = (i : Int)) (hi : i < n) {g : JFrame} (hg : g.method = m) {rest : List Value} (hs : g.stack = .long x :: .int j :: .ref a :: rest) (hd : decode c.code g.pc = .ok (.lastore, 1)) :
    ∃ T' h', Stand p l e R s m args below meth c T' (locs ++ [⟨a, i⟩]) cells slots ∧ T'.heap = h' ∧ Wr h h' a i (.long x) ∧ ArF Z h' a .long n (fun q => if q = i then .long x else f q) ∧ ∀ target, Steps p.tables e below (T'.setTop { g with pc := g.pc + 1, stack := rest }) target → Steps p.tables e below (T.setTop g) target := by
  obtain ⟨c, A, S, q3, H⟩ := F
  obtain ⟨T', h', X', e', W, st⟩ := Jvm.RoadKit.stJ X hx hZ eT A (own_inb S hj hi) hg hs hd
  rw [own_clamp hj] at X' W
  exact ⟨T', h', X', e', W, ArF.setW A S q3 H W, st⟩
theorem ArF.stB (X : Stand p l e R s m args below meth c T locs cells slots) (hx : p.tables.exec = Jvm.exec) (hZ : Z.Warmed39 s.vm) (eT : T.heap = h) (F : ArF Z h a .byte n f) {j x : Int32} {i : Nat} (hj : j.toInt = (i : Int)) (hi : i < n) {g : JFrame} (hg : g.method = m) {rest : List Value} (hs : g.stack = .int x :: .int j :: .ref a :: rest) (hd : decode c.code g.pc = .ok (.bastore, 1)) :
    ∃ T' h', Stand p l e R s m args below meth c T' (locs ++ [⟨a, i⟩]) cells slots ∧ T'.heap = h' ∧ Wr h h' a i (.int (nar .byte x)) ∧ ArF Z h' a .byte n (fun q => if q = i then .int (nar .byte x) else f q) ∧ ∀ target, Steps p.tables e below (T'.setTop { g with pc := g.pc + 1, stack := rest }) target → Steps p.tables e below (T.setTop g) target := by
  obtain ⟨c, A, S, q3, H⟩ := F
  obtain ⟨T', h', X', e', W, st⟩ := Jvm.RoadKit.stB X hx hZ eT A (own_inb S hj hi) hg hs hd
  rw [own_clamp hj] at X' W
  exact ⟨T', h', X', e', W, ArF.setW A S q3 H W, st⟩
theorem ArF.stC (X : Stand p l e R s m args below meth c T locs cells slots) (hx : p.tables.exec = Jvm.exec) (hZ : Z.Warmed39 s.vm) (eT : T.heap = h) (F : ArF Z h a .char n f) {j x : Int32} {i : Nat} (hj : j.toInt = (i : Int)) (hi : i < n) {g : JFrame} (hg : g.method = m) {rest : List Value} (hs : g.stack = .int x :: .int j :: .ref a :: rest) (hd : decode c.code g.pc = .ok (.castore, 1)) :
    ∃ T' h', Stand p l e R s m args below meth c T' (locs ++ [⟨a, i⟩]) cells slots ∧ T'.heap = h' ∧ Wr h h' a i (.int (nar .char x)) ∧ ArF Z h' a .char n (fun q => if q = i then .int (nar .char x) else f q) ∧ ∀ target, Steps p.tables e below (T'.setTop { g with pc := g.pc + 1, stack := rest }) target → Steps p.tables e below (T.setTop g) target := by
  obtain ⟨c, A, S, q3, H⟩ := F
  obtain ⟨T', h', X', e', W, st⟩ := Jvm.RoadKit.stC X hx hZ eT A (own_inb S hj hi) hg hs hd
  rw [own_clamp hj] at X' W
  exact ⟨T', h', X', e', W, ArF.setW A S q3 H W, st⟩
theorem ArF.ldI (X : Stand p l e R s m args below meth c T locs cells slots) (hx : p.tables.exec = Jvm.exec) (hZ : Z.Warmed39 s.vm) (eT : T.heap = h) (F : ArF Z h a .int n f) {j : Int32} {i : Nat} (hj : j.toInt = (i : Int)) (hi : i < n) {v : Int32} (hv : f i = .int v) {g : JFrame} (hg : g.method = m) {rest : List Value} (hs : g.stack = .int j :: .ref a :: rest) (hd : decode c.code g.pc = .ok (.iaload, 1)) :
    ∀ target, Steps p.tables e below (T.setTop { g with pc := g.pc + 1, stack := .int v :: rest }) target → Steps p.tables e below (T.setTop g) target := by
  obtain ⟨c, A, S, q3, H⟩ := F
  exact X.iaload hx (by rw [eT]; exact A.1) (State.isArrayOf_alike hZ.alike A.2.1) A.2.2 (own_inb S hj hi) (by rw [own_clamp hj, ← hv]; exact H i hi) hg hs hd
theorem ArF.ldJ (X : Stand p l e R s m args below meth c T locs cells slots) (hx : p.tables.exec = Jvm.exec) (hZ : Z.Warmed39 s.vm) (eT : T.heap = h) (F : ArF Z h a .long n f) {j : Int32} {i : Nat} (hj : j.toInt = (i : Int)) (hi : i < n) {v : Int64} (hv : f i = .long v) {g : JFrame} (hg : g.method = m) {rest : List Value} (hs : g.stack = .int j :: .ref a :: rest) (hd : decode c.code g.pc = .ok (.laload, 1)) :
    ∀ target, Steps p.tables e below (T.setTop { g with pc := g.pc + 1, stack := .long v :: rest }) target → Steps p.tables e below (T.setTop g) target := by
  obtain ⟨c, A, S, q3, H⟩ := F
  exact X.laload hx (by rw [eT]; exact A.1) (State.isArrayOf_alike hZ.alike A.2.1) A.2.2 (own_inb S hj hi) (by rw [own_clamp hj, ← hv]; exact H i hi) hg hs hd
theorem ArF.ldB (X : Stand p l e R s m args below meth c T locs cells slots) (hx : p.tables.exec = Jvm.exec) (hZ : Z.Warmed39 s.vm) (eT : T.heap = h) (F : ArF Z h a .byte n f) {j : Int32} {i : Nat} (hj : j.toInt = (i : Int)) (hi : i < n) {v : Int32} (hv : f i = .int v) {g : JFrame} (hg : g.method = m) {rest : List Value} (hs : g.stack = .int j :: .ref a :: rest) (hd : decode c.code g.pc = .ok (.baload, 1)) :
    ∀ target, Steps p.tables e below (T.setTop { g with pc := g.pc + 1, stack := .int v :: rest }) target → Steps p.tables e below (T.setTop g) target := by
  obtain ⟨c, A, S, q3, H⟩ := F
  exact X.baloadBytes hx (by rw [eT]; exact A.1) (State.isArrayOf_alike hZ.alike A.2.1) A.2.2 (own_inb S hj hi) (by rw [own_clamp hj, ← hv]; exact H i hi) hg hs hd
theorem ArF.ldC (X : Stand p l e R s m args below meth c T locs cells slots) (hx : p.tables.exec = Jvm.exec) (hZ : Z.Warmed39 s.vm) (eT : T.heap = h) (F : ArF Z h a .char n f) {j : Int32} {i : Nat} (hj : j.toInt = (i : Int)) (hi : i < n) {v : Int32} (hv : f i = .int v) {g : JFrame} (hg : g.method = m) {rest : List Value} (hs : g.stack = .int j :: .ref a :: rest) (hd : decode c.code g.pc = .ok (.caload, 1)) :
    ∀ target, Steps p.tables e below (T.setTop { g with pc := g.pc + 1, stack := .int v :: rest }) target → Steps p.tables e below (T.setTop g) target := by
  obtain ⟨c, A, S, q3, H⟩ := F
  exact X.caload hx (by rw [eT]; exact A.1) (State.isArrayOf_alike hZ.alike A.2.1) A.2.2 (own_inb S hj hi) (by rw [own_clamp hj, ← hv]; exact H i hi) hg hs hd
theorem ArF.len (X : Stand p l e R s m args below meth c T locs cells slots) (hx : p.tables.exec = Jvm.exec) (hZ : Z.Warmed39 s.vm) (eT : T.heap = h) (F : ArF Z h a ty n f) {g : JFrame} (hg : g.method = m) {rest : List Value} (hs : g.stack = .ref a :: rest) (hd : decode c.code g.pc = .ok (.arraylength, 1)) :
    ∀ target, Steps p.tables e below (T.setTop { g with pc := g.pc + 1, stack := .int (Int32.ofNat n) :: rest }) target → Steps p.tables e below (T.setTop g) target := by
  obtain ⟨c, A, S, q3, H⟩ := F
  have q := X.arraylength hx (by rw [eT]; exact A.1) (State.isArrayOf_alike hZ.alike A.2.1) hg hs hd
  rw [S] at q
  exact q
theorem own_more (X : Stand p l e R s m args below meth c T locs cells slots) {k n : Nat} (h1 : cells ≤ k) (h2 : slots ≤ n) : Stand p l e R s m args below meth c T locs k n :=
  { X with same := X.same.mono h1 h2 }
theorem own_selP {Z s : State} {a0 args : Array Value} {y : MethodName} {k : Nat} (hZ : Z.Warmed39 s.vm) (wi : (Cond.instantiable y.cls k).before a0 Z = true) (wp : (Cond.privateMethod y).before a0 Z = true) (wm : (Cond.instanceMethod y).before a0 Z = true) (hy : y.cls ≠ "java/lang/invoke/MethodHandle" ∧ y.cls ≠ "java/lang/invoke/VarHandle") : (Cond.selects y.cls y y).before args s = true := by
  have wi' : (Cond.instantiable y.cls k).before args s = true := mvT hZ wi
  obtain ⟨c, q, h1, h2, -, h4, -⟩ := Cond.instantiable_spec wi'
  simp only [Bool.or_eq_false_iff] at h4
  exact Jvm.Stand.selects_self_of_private h1 h2 h4.1 (Cond.privateMethod_at (mvP hZ wp (args := args))) (mvT hZ wm) hy
end Own
end Jvm.RoadKit
namespace Jvm.Pilot.@@N@@
open Jvm Jvm.ClassFile Sem Op Lib Jvm.Free Jvm.Stand Jvm.LawKit Jvm.RoadKit Bundle Jvm.Pilot.@@N@@.Jvm.D
theorem d1_0 : decode prog_20_method_1_code 0 = .ok (.aload_n 0, 1) := by decide +kernel
theorem d1_1 : decode prog_20_method_1_code 1 = .ok (.invokespecial 1, 3) := by decide +kernel
theorem d1_4 : decode prog_20_method_1_code 4 = .ok (.iload_n 1, 1) := by decide +kernel
theorem d1_5 : decode prog_20_method_1_code 5 = .ok (.iconst 1, 1) := by decide +kernel
theorem d1_6 : decode prog_20_method_1_code 6 = .ok (.if_icmp .lt 9, 3) := by decide +kernel
theorem d1_9 : decode prog_20_method_1_code 9 = .ok (.iload_n 1, 1) := by decide +kernel
theorem d1_10 : decode prog_20_method_1_code 10 = .ok (.bipush 100, 2) := by decide +kernel
theorem d1_12 : decode prog_20_method_1_code 12 = .ok (.if_icmp .le 17, 3) := by decide +kernel
theorem d1_29 : decode prog_20_method_1_code 29 = .ok (.iload_n 2, 1) := by decide +kernel
theorem d1_30 : decode prog_20_method_1_code 30 = .ok (.ifCond .ge 17, 3) := by decide +kernel
theorem d1_47 : decode prog_20_method_1_code 47 = .ok (.ldc2_w 19, 3) := by decide +kernel
theorem d1_50 : decode prog_20_method_1_code 50 = .ok (.iload_n 2, 1) := by decide +kernel
theorem d1_51 : decode prog_20_method_1_code 51 = .ok (.i2l, 1) := by decide +kernel
theorem d1_52 : decode prog_20_method_1_code 52 = .ok (.lmul, 1) := by decide +kernel
theorem d1_53 : decode prog_20_method_1_code 53 = .ok (.iload_n 1, 1) := by decide +kernel
theorem d1_54 : decode prog_20_method_1_code 54 = .ok (.i2l, 1) := by decide +kernel
theorem d1_55 : decode prog_20_method_1_code 55 = .ok (.lcmp, 1) := by decide +kernel
theorem d1_56 : decode prog_20_method_1_code 56 = .ok (.ifCond .lt 18, 3) := by decide +kernel
theorem d1_74 : decode prog_20_method_1_code 74 = .ok (.aload_n 0, 1) := by decide +kernel
theorem d1_75 : decode prog_20_method_1_code 75 = .ok (.iload_n 1, 1) := by decide +kernel
theorem d1_76 : decode prog_20_method_1_code 76 = .ok (.putfield 24, 3) := by decide +kernel
theorem d1_79 : decode prog_20_method_1_code 79 = .ok (.aload_n 0, 1) := by decide +kernel
theorem d1_80 : decode prog_20_method_1_code 80 = .ok (.iload_n 2, 1) := by decide +kernel
theorem d1_81 : decode prog_20_method_1_code 81 = .ok (.putfield 28, 3) := by decide +kernel
theorem d1_84 : decode prog_20_method_1_code 84 = .ok (.return_, 1) := by decide +kernel
theorem d2_0 : decode jdk_30_method_1_code 0 = .ok (.aload_n 0, 1) := by decide +kernel
theorem d2_1 : decode jdk_30_method_1_code 1 = .ok (.invokespecial 1, 3) := by decide +kernel
theorem d2_4 : decode jdk_30_method_1_code 4 = .ok (.return_, 1) := by decide +kernel
theorem d4_0 : decode prog_51_method_1_code 0 = .ok (.aload_n 0, 1) := by decide +kernel
theorem d4_1 : decode prog_51_method_1_code 1 = .ok (.invokespecial 1, 3) := by decide +kernel
theorem d4_4 : decode prog_51_method_1_code 4 = .ok (.aload_n 0, 1) := by decide +kernel
theorem d4_5 : decode prog_51_method_1_code 5 = .ok (.aload_n 1, 1) := by decide +kernel
theorem d4_6 : decode prog_51_method_1_code 6 = .ok (.invokevirtual 7, 3) := by decide +kernel
theorem d4_9 : decode prog_51_method_1_code 9 = .ok (.putfield 13, 3) := by decide +kernel
theorem d4_12 : decode prog_51_method_1_code 12 = .ok (.aload_n 0, 1) := by decide +kernel
theorem d4_13 : decode prog_51_method_1_code 13 = .ok (.new 18, 3) := by decide +kernel
theorem d4_16 : decode prog_51_method_1_code 16 = .ok (.dup, 1) := by decide +kernel
theorem d4_17 : decode prog_51_method_1_code 17 = .ok (.aload_n 1, 1) := by decide +kernel
theorem d4_18 : decode prog_51_method_1_code 18 = .ok (.invokevirtual 20, 3) := by decide +kernel
theorem d4_21 : decode prog_51_method_1_code 21 = .ok (.invokespecial 23, 3) := by decide +kernel
theorem d4_24 : decode prog_51_method_1_code 24 = .ok (.putfield 26, 3) := by decide +kernel
theorem d4_27 : decode prog_51_method_1_code 27 = .ok (.return_, 1) := by decide +kernel
theorem d5_0 : decode prog_20_method_9_code 0 = .ok (.aload_n 0, 1) := by decide +kernel
theorem d5_1 : decode prog_20_method_9_code 1 = .ok (.getfield 28, 3) := by decide +kernel
theorem d5_4 : decode prog_20_method_9_code 4 = .ok (.ireturn, 1) := by decide +kernel
theorem d6_0 : decode prog_20_method_8_code 0 = .ok (.aload_n 0, 1) := by decide +kernel
theorem d6_1 : decode prog_20_method_8_code 1 = .ok (.getfield 24, 3) := by decide +kernel
theorem d6_4 : decode prog_20_method_8_code 4 = .ok (.ireturn, 1) := by decide +kernel
theorem d7_0 : decode prog_59_method_1_code 0 = .ok (.aload_n 0, 1) := by decide +kernel
theorem d7_1 : decode prog_59_method_1_code 1 = .ok (.invokespecial 1, 3) := by decide +kernel
theorem d7_4 : decode prog_59_method_1_code 4 = .ok (.aload_n 0, 1) := by decide +kernel
theorem d7_5 : decode prog_59_method_1_code 5 = .ok (.iconst 1, 1) := by decide +kernel
theorem d7_6 : decode prog_59_method_1_code 6 = .ok (.anewarray 7, 3) := by decide +kernel
theorem d7_9 : decode prog_59_method_1_code 9 = .ok (.putfield 9, 3) := by decide +kernel
theorem d7_12 : decode prog_59_method_1_code 12 = .ok (.aload_n 0, 1) := by decide +kernel
theorem d7_13 : decode prog_59_method_1_code 13 = .ok (.iconst 1, 1) := by decide +kernel
theorem d7_14 : decode prog_59_method_1_code 14 = .ok (.newarray .int, 2) := by decide +kernel
theorem d7_16 : decode prog_59_method_1_code 16 = .ok (.putfield 15, 3) := by decide +kernel
theorem d7_19 : decode prog_59_method_1_code 19 = .ok (.aload_n 0, 1) := by decide +kernel
theorem d7_20 : decode prog_59_method_1_code 20 = .ok (.iload_n 1, 1) := by decide +kernel
theorem d7_21 : decode prog_59_method_1_code 21 = .ok (.newarray .boolean, 2) := by decide +kernel
theorem d7_23 : decode prog_59_method_1_code 23 = .ok (.putfield 19, 3) := by decide +kernel
theorem d7_26 : decode prog_59_method_1_code 26 = .ok (.return_, 1) := by decide +kernel
theorem d8_0 : decode prog_51_method_4_code 0 = .ok (.iload_n 1, 1) := by decide +kernel
theorem d8_1 : decode prog_51_method_4_code 1 = .ok (.iconst 2, 1) := by decide +kernel
theorem d8_2 : decode prog_51_method_4_code 2 = .ok (.aload_n 0, 1) := by decide +kernel
theorem d8_3 : decode prog_51_method_4_code 3 = .ok (.getfield 13, 3) := by decide +kernel
theorem d8_6 : decode prog_51_method_4_code 6 = .ok (.imul, 1) := by decide +kernel
theorem d8_7 : decode prog_51_method_4_code 7 = .ok (.if_icmp .le 7, 3) := by decide +kernel
theorem d8_10 : decode prog_51_method_4_code 10 = .ok (.iconst 1, 1) := by decide +kernel
theorem d8_11 : decode prog_51_method_4_code 11 = .ok (.goto 4, 3) := by decide +kernel
theorem d8_14 : decode prog_51_method_4_code 14 = .ok (.iconst 0, 1) := by decide +kernel
theorem d8_15 : decode prog_51_method_4_code 15 = .ok (.ireturn, 1) := by decide +kernel
theorem d9_0 : decode prog_51_method_3_code 0 = .ok (.iload_n 1, 1) := by decide +kernel
theorem d9_1 : decode prog_51_method_3_code 1 = .ok (.aload_n 0, 1) := by decide +kernel
theorem d9_2 : decode prog_51_method_3_code 2 = .ok (.getfield 13, 3) := by decide +kernel
theorem d9_5 : decode prog_51_method_3_code 5 = .ok (.if_icmp .le 7, 3) := by decide +kernel
theorem d9_8 : decode prog_51_method_3_code 8 = .ok (.iconst 1, 1) := by decide +kernel
theorem d9_9 : decode prog_51_method_3_code 9 = .ok (.goto 4, 3) := by decide +kernel
theorem d9_12 : decode prog_51_method_3_code 12 = .ok (.iconst 0, 1) := by decide +kernel
theorem d9_13 : decode prog_51_method_3_code 13 = .ok (.ireturn, 1) := by decide +kernel
theorem pn_0 : plainName "java/lang/Record" = true := by first | (simp [plainName, overriddenIn]; done) | decide +kernel
theorem pn_1 : plainName "com/example/totality/totality/core/ClusterSize" = true := by first | (simp [plainName, overriddenIn]; done) | decide +kernel
theorem pn_2 : plainName "com/example/totality/totality/core/Votes" = true := by first | (simp [plainName, overriddenIn]; done) | decide +kernel
theorem pn_3 : plainName "com/example/totality/totality/core/ReadyRound" = true := by first | (simp [plainName, overriddenIn]; done) | decide +kernel
theorem pn_4 : plainName "com/example/totality/totality/core/ReadyRoundDeliversPinLaw" = true := by first | (simp [plainName, overriddenIn]; done) | decide +kernel
theorem pd_0 : parseMethodDescriptor "()V" = some ⟨[], none⟩ := by decide +kernel
theorem pd_1 : parseMethodDescriptor "()I" = some ⟨[], some .int⟩ := by decide +kernel
theorem pd_2 : parseMethodDescriptor "(I)V" = some ⟨[.int], none⟩ := by decide +kernel
theorem pd_3 : parseMethodDescriptor "(II)V" = some ⟨[.int, .int], none⟩ := by decide +kernel
theorem pd_4 : parseMethodDescriptor "(Lcom/example/totality/totality/core/ClusterSize;)V" = some ⟨[(.object "com/example/totality/totality/core/ClusterSize")], none⟩ := by decide +kernel
theorem pd_5 : parseMethodDescriptor "(I)Z" = some ⟨[.int], some .boolean⟩ := by decide +kernel

def own_del (f q : Int32) : Int32 := if (2 : Int32) * f < q then 1 else 0
def own_rea (f q : Int32) : Int32 := if f < q then 1 else 0
theorem own_i32 : (0 : Int32).toInt = 0 ∧ (1 : Int32).toInt = 1 ∧ (2 : Int32).toInt = 2 ∧ (3 : Int32).toInt = 3 ∧ (100 : Int32).toInt = 100 ∧ (3 : Int64).toInt = 3 ∧ (2 : Int64).toInt = 2 ∧ (1 : Int64).toInt = 1 := by decide
def own_ok (n f : Int32) : Prop := 1 ≤ n.toInt ∧ n.toInt ≤ 100 ∧ 0 ≤ f.toInt ∧ 3 * f.toInt < n.toInt
theorem own_n (a n : Int32) (h : n = (1 : Int32) + (a &&& (2147483647 : Int32)) % (100 : Int32)) : 1 ≤ n.toInt ∧ n.toInt ≤ 100 := by
  obtain ⟨e0, e1, e2, e3, e4, -⟩ := own_i32
  have m := own_mask32 a 2147483647 (by decide)
  have r : ((a &&& (2147483647 : Int32)) % (100 : Int32)).toInt = (a &&& (2147483647 : Int32)).toInt % 100 := by
    rw [Int32.toInt_mod, e4, Int.tmod_eq_emod_of_nonneg m.1]
  have t : n.toInt = 1 + (a &&& (2147483647 : Int32)).toInt % 100 := by
    rw [h, own_add32] <;> rw [e1, r] <;> omega
  omega
theorem own_nz (n : Int32) (h : 1 ≤ n.toInt ∧ n.toInt ≤ 100) : (((n - (1 : Int32)) / (3 : Int32)) + (1 : Int32)).toInt = (n.toInt - 1) / 3 + 1 := by
  obtain ⟨e0, e1, e2, e3, e4, -⟩ := own_i32
  have s : (n - (1 : Int32)).toInt = n.toInt - 1 := by rw [own_sub32] <;> rw [e1] <;> omega
  have d : ((n - (1 : Int32)) / (3 : Int32)).toInt = (n.toInt - 1) / 3 := by
    rw [Int32.toInt_div_of_ne_right _ _ (by decide), s, e3, Int.tdiv_eq_ediv_of_nonneg (by omega)]
  rw [own_add32] <;> rw [d, e1] <;> omega
theorem own_f (b n f : Int32) (hn : 1 ≤ n.toInt ∧ n.toInt ≤ 100) (h : f = (b &&& (2147483647 : Int32)) % (((n - (1 : Int32)) / (3 : Int32)) + (1 : Int32))) : own_ok n f := by
  have m := own_mask32 b 2147483647 (by decide)
  have z := own_nz n hn
  have r : f.toInt = (b &&& (2147483647 : Int32)).toInt % ((n.toInt - 1) / 3 + 1) := by
    rw [h, Int32.toInt_mod, z, Int.tmod_eq_emod_of_nonneg m.1]
  have p : 0 < (n.toInt - 1) / 3 + 1 := by omega
  have q1 := Int.emod_nonneg (b &&& (2147483647 : Int32)).toInt (Int.ne_of_gt p)
  have q2 := Int.emod_lt_of_pos (b &&& (2147483647 : Int32)).toInt p
  unfold own_ok
  omega
theorem own_div_ne (n : Int32) (h : 1 ≤ n.toInt ∧ n.toInt ≤ 100) : (((n - (1 : Int32)) / (3 : Int32)) + (1 : Int32)) ≠ 0 := fun q => by
  have z := own_nz n h
  rw [q, own_i32.1] at z
  omega
theorem own_c1 {n f : Int32} (h : own_ok n f) : ¬ n < (1 : Int32) := by
  obtain ⟨e0, e1, e2, e3, e4, -⟩ := own_i32
  unfold own_ok at h
  rw [Int32.lt_iff_toInt_lt]; omega
theorem own_c2 {n f : Int32} (h : own_ok n f) : ¬ (100 : Int32) < n := by
  obtain ⟨e0, e1, e2, e3, e4, -⟩ := own_i32
  unfold own_ok at h
  rw [Int32.lt_iff_toInt_lt]; omega
theorem own_c3 {n f : Int32} (h : own_ok n f) : ¬ f < (0 : Int32) := by
  obtain ⟨e0, e1, e2, e3, e4, -⟩ := own_i32
  unfold own_ok at h
  rw [Int32.lt_iff_toInt_lt]; omega
theorem own_c4 {n f : Int32} (h : own_ok n f) : (3 : Int64) * f.toInt64 < n.toInt64 := by
  obtain ⟨e0, e1, e2, e3, e4, e5, -⟩ := own_i32
  unfold own_ok at h
  have m : ((3 : Int64) * f.toInt64).toInt = 3 * f.toInt := by rw [own_mul64] <;> rw [e5, Int32.toInt_toInt64] <;> omega
  rw [Int64.lt_iff_toInt_lt, m, Int32.toInt_toInt64]; omega
theorem own_n0 {n f : Int32} (h : own_ok n f) : ¬ n < (0 : Int32) := by
  obtain ⟨e0, e1, e2, e3, e4, -⟩ := own_i32
  unfold own_ok at h
  rw [Int32.lt_iff_toInt_lt]; omega
theorem own_n100 {n f : Int32} (h : own_ok n f) : n.toNatClampNeg ≤ 100 := by
  unfold own_ok at h
  show n.toInt.toNat ≤ 100
  omega
theorem own_two {n f : Int32} (h : own_ok n f) : ((2 : Int32) * f).toInt = 2 * f.toInt := by
  obtain ⟨e0, e1, e2, e3, e4, -⟩ := own_i32
  unfold own_ok at h
  rw [own_mul32] <;> rw [e2] <;> omega
theorem own_exact {n f q v : Int32} (h : own_ok n f) (hv : v = if q.toInt64 < ((2 : Int64) * f.toInt64) + (1 : Int64) then (0 : Int32) else (1 : Int32)) : own_del f q = v := by
  obtain ⟨e0, e1, e2, e3, e4, e5, e6, e7⟩ := own_i32
  have t := own_two h
  unfold own_ok at h
  have m : ((2 : Int64) * f.toInt64).toInt = 2 * f.toInt := by rw [own_mul64] <;> rw [e6, Int32.toInt_toInt64] <;> omega
  have m2 : (((2 : Int64) * f.toInt64) + (1 : Int64)).toInt = 2 * f.toInt + 1 := by rw [own_add64] <;> rw [e7, m] <;> omega
  subst hv
  unfold own_del
  by_cases z : q.toInt64 < ((2 : Int64) * f.toInt64) + (1 : Int64)
  · rw [if_pos z, if_neg]
    rw [Int64.lt_iff_toInt_lt, m2, Int32.toInt_toInt64] at z
    rw [Int32.lt_iff_toInt_lt, t]; omega
  · rw [if_neg z, if_pos]
    rw [Int64.lt_iff_toInt_lt, m2, Int32.toInt_toInt64] at z
    rw [Int32.lt_iff_toInt_lt, t]; omega
theorem own_imp {n f q : Int32} (h : own_ok n f) (hd : ¬ own_del f q = 0) : ¬ own_rea f q = 0 := by
  have t := own_two h
  unfold own_ok at h
  unfold own_del at hd
  unfold own_rea
  by_cases z : (2 : Int32) * f < q
  · rw [if_pos]; decide
    rw [Int32.lt_iff_toInt_lt, t] at z
    rw [Int32.lt_iff_toInt_lt]; omega
  · rw [if_neg z] at hd; exact absurd rfl hd
theorem own_below {n f : Int32} (h : own_ok n f) : own_del f ((2 : Int32) * f) = 0 := by
  unfold own_del; rw [if_neg Int32.lt_irrefl]
theorem own_at {n f : Int32} (h : own_ok n f) : ¬ own_del f (((2 : Int32) * f) + (1 : Int32)) = 0 := by
  obtain ⟨e0, e1, e2, e3, e4, -⟩ := own_i32
  have t := own_two h
  unfold own_ok at h
  have m : (((2 : Int32) * f) + (1 : Int32)).toInt = 2 * f.toInt + 1 := by rw [own_add32] <;> rw [e1, t] <;> omega
  unfold own_del; rw [if_pos]; decide
  rw [Int32.lt_iff_toInt_lt, m, t]; omega
theorem own_suff {n f : Int32} (h : own_ok n f) : ¬ own_del f (n - f) = 0 := by
  have t := own_two h
  unfold own_ok at h
  have m : (n - f).toInt = n.toInt - f.toInt := own_sub32 (by omega) (by omega)
  unfold own_del; rw [if_pos]; decide
  rw [Int32.lt_iff_toInt_lt, m, t]; omega
theorem ef_rm2 (m : MethodId) (x0 : Addr) : entryFrame m #[(.ref x0)] 1 = mkF m 0 #[.val (.ref x0)] [] := by first | (simp [entryFrame, mkF, argsToLocals, Value.category]; done) | rfl
def Q_rm2 (Z : State) (a1 : Addr) (h0 : Heap) (n0 : Nat) (v : Option Value) (h : Heap) (L : List Loc) : Prop := v = none ∧ Fr n0 L ∧ h = h0
set_option maxRecDepth 65536 in
set_option maxHeartbeats 40000000 in
theorem rm2 (l : Launch) (Z : State) (a0 : Array Value) (hw : ∀ d ∈ tables_1, d.before a0 Z = true) (ws : List Jvm.Cond) (a1 : Addr) (h0 : Heap) (n0 : Nat) (Z0 : n0 ≤ h0.size)  :
    MetFree l (⟨"java/lang/Record", "<init>", "()V"⟩ : MethodName) (head1 (Jvm.Cond.code (⟨"java/lang/Record", "<init>", "()V"⟩ : MethodName) jdk_30_method_1_code 1 none :: ws) ({ frames := 1, cells := 0, slots := 0, locals := 12 } : Room)) (fun a U => a = #[(.ref a1)] ∧ Z.Warmed39 U.vm ∧ U.heap = h0) (fun _ _ _ _ _ => True) (fun _ U o U' => ∃ v L, o = .returned v ∧ Q_rm2 Z a1 h0 n0 v U'.heap L ∧ FrameEnd U o U' L ({ frames := 1, cells := 0, slots := 0, locals := 12 } : Room).cells ({ frames := 1, cells := 0, slots := 0, locals := 12 } : Room).slots) := by
  refine MetFree.of_bodySF (plainFor_of_name pn_0) hisR ?_
  intro p e s m args below meth c s₁ Bd hml0 hP hK
  obtain ⟨rfl, hZ, hh⟩ := hP
  have hx := Bd.exec
  have hby := Bd.bytes
  have hml : c.maxLocals = 1 := hml0
  have hown : s.vm.findClass "java/lang/Record" = some m.cls := findClass_of_methodNamed Bd.named
  have hnm := (name_of_methodNamed Bd.named Bd.method).1
  have X0 : Stand p l e ({ frames := 1, cells := 0, slots := 0, locals := 12 } : Room) s m #[(.ref a1)] below meth c s₁ [] 0 0 := Stand.of_body Bd
  have e0 : s₁.heap = h0 := by rw [← hh, Bd.state]; rfl
  have N0 := Fr.nil n0
  have pre0 : ∀ t, Steps p.tables e below (s₁.setTop (mkF m 0 #[.val (.ref a1)] [])) t → Steps p.tables e below (s₁.setTop (entryFrame m #[(.ref a1)] 1)) t := fun t k => castTop (ef_rm2 m a1) k
  have S1 : ∀ t, Steps p.tables e below (s₁.setTop (mkF m 1 #[.val (.ref a1)] [(.ref a1)])) t → Steps p.tables e below (s₁.setTop (mkF m 0 #[.val (.ref a1)] [])) t := by
    intro t kt
    show Steps p.tables e below (s₁.setTop (mkF m 0 #[.val (.ref a1)] [])) _
    refine XS.aloadN X0.here hx rfl (hb hby d2_0) rfl rfl ?_
    exact kt
  obtain ⟨T2, X2, e2, st2⟩ := initO X0 hx hZ hown (hw _ (List.mem_of_getElem? (i := 15) rfl)) (hw _ (List.mem_of_getElem? (i := 16) rfl)) (hw _ (List.mem_of_getElem? (i := 17) rfl)) e0 (g := (mkF m 1 #[.val (.ref a1)] [(.ref a1)])) rfl (by rw [hml]; rfl) rfl (hb hby d2_1) (by decide) (W := 0) (by show 2 * 0 + _ ≤ _; exact Nat.le_of_eq rfl) (by decide)
  have C3 : ∀ t, Steps p.tables e below (T2.setTop (mkF m 4 #[.val (.ref a1)] [])) t → Steps p.tables e below (s₁.setTop (mkF m 0 #[.val (.ref a1)] [])) t := (fun t k => (S1 t (st2 t k)))
  obtain ⟨fs, hr, hrun, hended, hW, hsame⟩ := X2.leave (v := none) (fun _ => rfl)
  refine ⟨_, _, pre0 _ (C3 _ ?_), hrun, hended, _, _, rfl, ?_, ⟨_, rfl⟩, hW, hsame.mono (by decide) (by decide)⟩
  · exact X2.returnOut hx Bd.returns (hb hby d2_4) hr
  · show Q_rm2 Z a1 h0 n0 _ T2.heap _
    rw [e2]
    exact ⟨rfl, N0, rfl⟩
theorem ef_rm1 (m : MethodId) (x0 : Addr) (x1 : Int32) (x2 : Int32) : entryFrame m #[(.ref x0), (.int x1), (.int x2)] 3 = mkF m 0 #[.val (.ref x0), .val (.int x1), .val (.int x2)] [] := by first | (simp [entryFrame, mkF, argsToLocals, Value.category]; done) | rfl
def Q_rm1 (Z : State) (a1 : Addr) (n1 : Int32) (f1 : Int32) (u1 : Value) (u2 : Value) (h0 : Heap) (n0 : Nat) (v : Option Value) (h : Heap) (L : List Loc) : Prop := v = none ∧ Fr n0 L ∧ Keep h0 h [a1] ∧ Fld Z h a1 "com/example/totality/totality/core/ClusterSize" "nodes" "I" (.int n1) ∧ Fld Z h a1 "com/example/totality/totality/core/ClusterSize" "faulty" "I" (.int f1)
set_option maxRecDepth 65536 in
set_option maxHeartbeats 40000000 in
theorem rm1 (l : Launch) (Z : State) (a0 : Array Value) (hw : ∀ d ∈ tables_1, d.before a0 Z = true) (ws : List Jvm.Cond) (a1 : Addr) (n1 : Int32) (f1 : Int32) (u1 : Value) (u2 : Value) (h0 : Heap) (n0 : Nat) (Z0 : n0 ≤ h0.size) (F4 : Exa Z h0 a1 "com/example/totality/totality/core/ClusterSize") (F5 : Fld Z h0 a1 "com/example/totality/totality/core/ClusterSize" "nodes" "I" u1) (F6 : Fld Z h0 a1 "com/example/totality/totality/core/ClusterSize" "faulty" "I" u2) (g_a1 : n0 ≤ a1) (hok : own_ok n1 f1) :
    MetFree l (⟨"com/example/totality/totality/core/ClusterSize", "<init>", "(II)V"⟩ : MethodName) (head1 (Jvm.Cond.code (⟨"com/example/totality/totality/core/ClusterSize", "<init>", "(II)V"⟩ : MethodName) prog_20_method_1_code 3 none :: ws) ({ frames := 2, cells := 0, slots := 0, locals := 24 } : Room)) (fun a U => a = #[(.ref a1), (.int n1), (.int f1)] ∧ Z.Warmed39 U.vm ∧ U.heap = h0) (fun _ _ _ _ _ => True) (fun _ U o U' => ∃ v L, o = .returned v ∧ Q_rm1 Z a1 n1 f1 u1 u2 h0 n0 v U'.heap L ∧ FrameEnd U o U' L ({ frames := 2, cells := 0, slots := 0, locals := 24 } : Room).cells ({ frames := 2, cells := 0, slots := 0, locals := 24 } : Room).slots) := by
  refine MetFree.of_bodySF (plainFor_of_name pn_1) hisR ?_
  intro p e s m args below meth c s₁ Bd hml0 hP hK
  obtain ⟨rfl, hZ, hh⟩ := hP
  have hx := Bd.exec
  have hby := Bd.bytes
  have hml : c.maxLocals = 3 := hml0
  have hown : s.vm.findClass "com/example/totality/totality/core/ClusterSize" = some m.cls := findClass_of_methodNamed Bd.named
  have hnm := (name_of_methodNamed Bd.named Bd.method).1
  have X0 : Stand p l e ({ frames := 2, cells := 0, slots := 0, locals := 24 } : Room) s m #[(.ref a1), (.int n1), (.int f1)] below meth c s₁ [] 0 0 := Stand.of_body Bd
  have e0 : s₁.heap = h0 := by rw [← hh, Bd.state]; rfl
  have N0 := Fr.nil n0
  have pre0 : ∀ t, Steps p.tables e below (s₁.setTop (mkF m 0 #[.val (.ref a1), .val (.int n1), .val (.int f1)] [])) t → Steps p.tables e below (s₁.setTop (entryFrame m #[(.ref a1), (.int n1), (.int f1)] 3)) t := fun t k => castTop (ef_rm1 m a1 n1 f1) k
  have S7 : ∀ t, Steps p.tables e below (s₁.setTop (mkF m 1 #[.val (.ref a1), .val (.int n1), .val (.int f1)] [(.ref a1)])) t → Steps p.tables e below (s₁.setTop (mkF m 0 #[.val (.ref a1), .val (.int n1), .val (.int f1)] [])) t := by
    intro t kt
    show Steps p.tables e below (s₁.setTop (mkF m 0 #[.val (.ref a1), .val (.int n1), .val (.int f1)] [])) _
    refine XS.aloadN X0.here hx rfl (hb hby d1_0) rfl rfl ?_
    exact kt
  obtain ⟨_, _, ⟨T8, L8, k8, n8⟩, -, X8, ⟨Lc8, hQ8, l8, y8, z8⟩, st8⟩ := X0.specialBack hx (y := (⟨"java/lang/Record", "<init>", "()V"⟩ : MethodName)) rfl hown (mvT hZ (hw _ (List.mem_of_getElem? (i := 10) rfl))) (mvT hZ (hw _ (List.mem_of_getElem? (i := 11) rfl))) (mvT hZ (hw _ (List.mem_of_getElem? (i := 14) rfl))) (by decide) (backOf (W := 0) (rm2 l Z a0 hw [] a1 h0 n0 Z0 ) hZ (hw _ (List.mem_of_getElem? (i := 14) rfl)) (hw _ (List.mem_of_getElem? (i := 13) rfl)) (by decide) (by decide)) (g := (mkF m 1 #[.val (.ref a1), .val (.int n1), .val (.int f1)] [(.ref a1)])) rfl (by rw [hml]; rfl) (Steps.refl _) (a := a1) (argsL := []) (rest := []) (lenOf pd_0 rfl) rfl (by show 2 * 0 + _ ≤ _; exact Nat.le_of_eq rfl) (hb hby d1_1) (fun _ _ => ⟨rfl, e0, (by decide : 0 + 0 ≤ _), (by decide : 0 + 0 ≤ _)⟩)
  dsimp only [Pt.U, Pt.locs, Pt.cells, Pt.slots] at X8 l8 y8 z8 st8 hQ8
  subst l8 y8 z8
  obtain ⟨rfl, N8q, e8⟩ := hQ8
  have N8 := Fr.app N0 N8q
  have S9 : ∀ t, Steps p.tables e below (T8.setTop (mkF m 76 #[.val (.ref a1), .val (.int n1), .val (.int f1)] [(.int n1), (.ref a1)])) t → Steps p.tables e below (T8.setTop (mkF m 4 #[.val (.ref a1), .val (.int n1), .val (.int f1)] [])) t := by
    intro t kt
    show Steps p.tables e below (T8.setTop (mkF m 4 #[.val (.ref a1), .val (.int n1), .val (.int f1)] [])) _
    refine XS.iloadN X8.here hx rfl (hb hby d1_4) rfl ?_
    show Steps p.tables e below (T8.setTop (mkF m 5 #[.val (.ref a1), .val (.int n1), .val (.int f1)] [(.int n1)])) _
    refine XS.iconst X8.here hx rfl (hb hby d1_5) ?_
    show Steps p.tables e below (T8.setTop (mkF m 6 #[.val (.ref a1), .val (.int n1), .val (.int f1)] [(.int (1 : Int32)), (.int n1)])) _
    refine XS.icmpNo X8.here hx rfl (hb hby d1_6) rfl (flt (own_c1 hok)).1 ?_
    show Steps p.tables e below (T8.setTop (mkF m 9 #[.val (.ref a1), .val (.int n1), .val (.int f1)] [])) _
    refine XS.iloadN X8.here hx rfl (hb hby d1_9) rfl ?_
    show Steps p.tables e below (T8.setTop (mkF m 10 #[.val (.ref a1), .val (.int n1), .val (.int f1)] [(.int n1)])) _
    refine XS.bipush X8.here hx rfl (hb hby d1_10) ?_
    show Steps p.tables e below (T8.setTop (mkF m 12 #[.val (.ref a1), .val (.int n1), .val (.int f1)] [(.int (100 : Int32)), (.int n1)])) _
    refine XS.icmpYes X8.here hx rfl (pc0 := 12) (pc' := 29) rfl (hb hby d1_12) rfl (flt (own_c2 hok)).2.2.2 (by decide) (by decide) ?_
    show Steps p.tables e below (T8.setTop (mkF m 29 #[.val (.ref a1), .val (.int n1), .val (.int f1)] [])) _
    refine XS.iloadN X8.here hx rfl (hb hby d1_29) rfl ?_
    show Steps p.tables e below (T8.setTop (mkF m 30 #[.val (.ref a1), .val (.int n1), .val (.int f1)] [(.int f1)])) _
    refine XS.ifYes X8.here hx rfl (pc0 := 30) (pc' := 47) rfl (hb hby d1_30) rfl ((if0 _ _).trans (flt (own_c3 hok)).2.1) (by decide) (by decide) ?_
    show Steps p.tables e below (T8.setTop (mkF m 47 #[.val (.ref a1), .val (.int n1), .val (.int f1)] [])) _
    refine X8.ldc2Long hx hown (mvT hZ (hw _ (List.mem_of_getElem? (i := 18) rfl))) (g := (mkF m 47 #[.val (.ref a1), .val (.int n1), .val (.int f1)] [])) rfl (hb hby d1_47) _ ?_
    show Steps p.tables e below (T8.setTop (mkF m 50 #[.val (.ref a1), .val (.int n1), .val (.int f1)] [(.long (3 : Int64))])) _
    refine XS.iloadN X8.here hx rfl (hb hby d1_50) rfl ?_
    show Steps p.tables e below (T8.setTop (mkF m 51 #[.val (.ref a1), .val (.int n1), .val (.int f1)] [(.int f1), (.long (3 : Int64))])) _
    refine XS.i2l X8.here hx rfl (hb hby d1_51) rfl ?_
    show Steps p.tables e below (T8.setTop (mkF m 52 #[.val (.ref a1), .val (.int n1), .val (.int f1)] [(.long (f1.toInt64)), (.long (3 : Int64))])) _
    refine XS.lmul X8.here hx rfl (hb hby d1_52) rfl ?_
    show Steps p.tables e below (T8.setTop (mkF m 53 #[.val (.ref a1), .val (.int n1), .val (.int f1)] [(.long ((3 : Int64) * (f1.toInt64)))])) _
    refine XS.iloadN X8.here hx rfl (hb hby d1_53) rfl ?_
    show Steps p.tables e below (T8.setTop (mkF m 54 #[.val (.ref a1), .val (.int n1), .val (.int f1)] [(.int n1), (.long ((3 : Int64) * (f1.toInt64)))])) _
    refine XS.i2l X8.here hx rfl (hb hby d1_54) rfl ?_
    show Steps p.tables e below (T8.setTop (mkF m 55 #[.val (.ref a1), .val (.int n1), .val (.int f1)] [(.long (n1.toInt64)), (.long ((3 : Int64) * (f1.toInt64)))])) _
    refine XS.lcmp X8.here hx rfl (hb hby d1_55) rfl ?_
    show Steps p.tables e below (T8.setTop (mkF m 56 #[.val (.ref a1), .val (.int n1), .val (.int f1)] [(.int (lcmpW ((3 : Int64) * (f1.toInt64)) (n1.toInt64)))])) _
    refine XS.ifYes X8.here hx rfl (pc0 := 56) (pc' := 74) rfl (hb hby d1_56) rfl ((if0 _ _).trans (tlt ((lw_lt ((3 : Int64) * (f1.toInt64)) (n1.toInt64)).mpr (own_c4 hok))).1) (by decide) (by decide) ?_
    show Steps p.tables e below (T8.setTop (mkF m 74 #[.val (.ref a1), .val (.int n1), .val (.int f1)] [])) _
    refine XS.aloadN X8.here hx rfl (hb hby d1_74) rfl rfl ?_
    show Steps p.tables e below (T8.setTop (mkF m 75 #[.val (.ref a1), .val (.int n1), .val (.int f1)] [(.ref a1)])) _
    refine XS.iloadN X8.here hx rfl (hb hby d1_75) rfl ?_
    exact kt
  obtain ⟨T10, h10, X10, e10, W10, st10⟩ := putF X8 hx hZ hown (host := "") (Or.inl (hw _ (List.mem_of_getElem? (i := 19) rfl))) Via.refl e8 F5 F4 (Or.inr ⟨(hw _ (List.mem_of_getElem? (i := 20) rfl)), rfl, hnm⟩) (hw _ (List.mem_of_getElem? (i := 5) rfl)) (ty := .int) (by decide) rfl rfl (g := (mkF m 76 #[.val (.ref a1), .val (.int n1), .val (.int f1)] [(.int n1), (.ref a1)])) rfl rfl (hb hby d1_76)
  have z11 : n0 ≤ h10.size := Nat.le_trans Z0 (Keep.of_wr W10).1
  have N12 := Fr.snoc X10 N8 g_a1
  have Fw10 := F5.same W10
  have S13 : ∀ t, Steps p.tables e below (T10.setTop (mkF m 81 #[.val (.ref a1), .val (.int n1), .val (.int f1)] [(.int f1), (.ref a1)])) t → Steps p.tables e below (T10.setTop (mkF m 79 #[.val (.ref a1), .val (.int n1), .val (.int f1)] [])) t := by
    intro t kt
    show Steps p.tables e below (T10.setTop (mkF m 79 #[.val (.ref a1), .val (.int n1), .val (.int f1)] [])) _
    refine XS.aloadN X10.here hx rfl (hb hby d1_79) rfl rfl ?_
    show Steps p.tables e below (T10.setTop (mkF m 80 #[.val (.ref a1), .val (.int n1), .val (.int f1)] [(.ref a1)])) _
    refine XS.iloadN X10.here hx rfl (hb hby d1_80) rfl ?_
    exact kt
  have f14 := (F6.other W10 (Or.inr (slot_ne (Or.inr (hw _ (List.mem_of_getElem? (i := 22) rfl))) (Or.inr (hw _ (List.mem_of_getElem? (i := 20) rfl))) (by decide) (t := .int) (t' := .int) (by decide) (by decide))))
  have f15 := (F4.wr W10)
  obtain ⟨T16, h16, X16, e16, W16, st16⟩ := putF X10 hx hZ hown (host := "") (Or.inl (hw _ (List.mem_of_getElem? (i := 21) rfl))) Via.refl e10 f14 f15 (Or.inr ⟨(hw _ (List.mem_of_getElem? (i := 22) rfl)), rfl, hnm⟩) (hw _ (List.mem_of_getElem? (i := 5) rfl)) (ty := .int) (by decide) rfl rfl (g := (mkF m 81 #[.val (.ref a1), .val (.int n1), .val (.int f1)] [(.int f1), (.ref a1)])) rfl rfl (hb hby d1_81)
  have z17 : n0 ≤ h16.size := Nat.le_trans z11 (Keep.of_wr W16).1
  have N18 := Fr.snoc X16 N12 g_a1
  have Fw16 := f14.same W16
  have C19 : ∀ t, Steps p.tables e below (T16.setTop (mkF m 84 #[.val (.ref a1), .val (.int n1), .val (.int f1)] [])) t → Steps p.tables e below (s₁.setTop (mkF m 0 #[.val (.ref a1), .val (.int n1), .val (.int f1)] [])) t := (fun t k => (S7 t (st8.trans (S9 t (st10 t (S13 t (st16 t k)))))))
  obtain ⟨fs, hr, hrun, hended, hW, hsame⟩ := X16.leave (v := none) (fun _ => rfl)
  refine ⟨_, _, pre0 _ (C19 _ ?_), hrun, hended, _, _, rfl, ?_, ⟨_, rfl⟩, hW, hsame.mono (by decide) (by decide)⟩
  · exact X16.returnOut hx Bd.returns (hb hby d1_84) hr
  · show Q_rm1 Z a1 n1 f1 u1 u2 h0 n0 _ T16.heap _
    rw [e16]
    have f20 := (Fw10.other W16 (Or.inr (slot_ne (Or.inr (hw _ (List.mem_of_getElem? (i := 20) rfl))) (Or.inr (hw _ (List.mem_of_getElem? (i := 22) rfl))) (by decide) (t := .int) (t' := .int) (by decide) (by decide))))
    exact ⟨rfl, N18, (((Keep.refl h0 [a1]).wr W10 (Or.inl (List.mem_of_getElem? (i := 0) rfl))).wr W16 (Or.inl (List.mem_of_getElem? (i := 0) rfl))), f20, Fw16⟩
theorem ef_rm5 (m : MethodId) (x0 : Addr) : entryFrame m #[(.ref x0)] 1 = mkF m 0 #[.val (.ref x0)] [] := by first | (simp [entryFrame, mkF, argsToLocals, Value.category]; done) | rfl
def Q_rm5 (Z : State) (a1 : Addr) (n1 : Int32) (h0 : Heap) (n0 : Nat) (v : Option Value) (h : Heap) (L : List Loc) : Prop := v = some (.int n1) ∧ Fr n0 L ∧ h = h0
set_option maxRecDepth 65536 in
set_option maxHeartbeats 40000000 in
theorem rm5 (l : Launch) (Z : State) (a0 : Array Value) (hw : ∀ d ∈ tables_1, d.before a0 Z = true) (ws : List Jvm.Cond) (a1 : Addr) (n1 : Int32) (h0 : Heap) (n0 : Nat) (Z0 : n0 ≤ h0.size) (F21 : Fld Z h0 a1 "com/example/totality/totality/core/ClusterSize" "faulty" "I" (.int n1)) :
    MetFree l (⟨"com/example/totality/totality/core/ClusterSize", "faulty", "()I"⟩ : MethodName) (head1 (Jvm.Cond.code (⟨"com/example/totality/totality/core/ClusterSize", "faulty", "()I"⟩ : MethodName) prog_20_method_9_code 1 (some .int) :: ws) ({ frames := 0, cells := 0, slots := 0, locals := 0 } : Room)) (fun a U => a = #[(.ref a1)] ∧ Z.Warmed39 U.vm ∧ U.heap = h0) (fun _ _ _ _ _ => True) (fun _ U o U' => ∃ v L, o = .returned v ∧ Q_rm5 Z a1 n1 h0 n0 v U'.heap L ∧ FrameEnd U o U' L ({ frames := 0, cells := 0, slots := 0, locals := 0 } : Room).cells ({ frames := 0, cells := 0, slots := 0, locals := 0 } : Room).slots) := by
  refine MetFree.of_bodySF (plainFor_of_name pn_1) hisR ?_
  intro p e s m args below meth c s₁ Bd hml0 hP hK
  obtain ⟨rfl, hZ, hh⟩ := hP
  have hx := Bd.exec
  have hby := Bd.bytes
  have hml : c.maxLocals = 1 := hml0
  have hown : s.vm.findClass "com/example/totality/totality/core/ClusterSize" = some m.cls := findClass_of_methodNamed Bd.named
  have hnm := (name_of_methodNamed Bd.named Bd.method).1
  have X0 : Stand p l e ({ frames := 0, cells := 0, slots := 0, locals := 0 } : Room) s m #[(.ref a1)] below meth c s₁ [] 0 0 := Stand.of_body Bd
  have e0 : s₁.heap = h0 := by rw [← hh, Bd.state]; rfl
  have N0 := Fr.nil n0
  have pre0 : ∀ t, Steps p.tables e below (s₁.setTop (mkF m 0 #[.val (.ref a1)] [])) t → Steps p.tables e below (s₁.setTop (entryFrame m #[(.ref a1)] 1)) t := fun t k => castTop (ef_rm5 m a1) k
  have S22 : ∀ t, Steps p.tables e below (s₁.setTop (mkF m 1 #[.val (.ref a1)] [(.ref a1)])) t → Steps p.tables e below (s₁.setTop (mkF m 0 #[.val (.ref a1)] [])) t := by
    intro t kt
    show Steps p.tables e below (s₁.setTop (mkF m 0 #[.val (.ref a1)] [])) _
    refine XS.aloadN X0.here hx rfl (hb hby d5_0) rfl rfl ?_
    exact kt
  obtain ⟨T23, X23, e23, st23⟩ := getF X0 hx hZ hown (host := "") (Or.inl (hw _ (List.mem_of_getElem? (i := 21) rfl))) Via.refl e0 F21 (g := (mkF m 1 #[.val (.ref a1)] [(.ref a1)])) rfl rfl (hb hby d5_1)
  have C24 : ∀ t, Steps p.tables e below (T23.setTop (mkF m 4 #[.val (.ref a1)] [(.int n1)])) t → Steps p.tables e below (s₁.setTop (mkF m 0 #[.val (.ref a1)] [])) t := (fun t k => (S22 t (st23 t k)))
  obtain ⟨fs, hr, hrun, hended, hW, hsame⟩ := X23.leave (v := some (.int n1)) (fun h => by rw [Bd.returns] at h; cases h)
  refine ⟨_, _, pre0 _ (C24 _ ?_), hrun, hended, _, _, rfl, ?_, ⟨_, rfl⟩, hW, hsame.mono (by decide) (by decide)⟩
  · exact retOut X23 hx (t := .int) Bd.returns rfl (Or.inl ⟨rfl, Or.inl rfl, _, rfl⟩) (hb hby d5_4) hr
  · show Q_rm5 Z a1 n1 h0 n0 _ T23.heap _
    rw [e23]
    exact ⟨rfl, N0, rfl⟩
theorem ef_rm6 (m : MethodId) (x0 : Addr) : entryFrame m #[(.ref x0)] 1 = mkF m 0 #[.val (.ref x0)] [] := by first | (simp [entryFrame, mkF, argsToLocals, Value.category]; done) | rfl
def Q_rm6 (Z : State) (a1 : Addr) (n1 : Int32) (h0 : Heap) (n0 : Nat) (v : Option Value) (h : Heap) (L : List Loc) : Prop := v = some (.int n1) ∧ Fr n0 L ∧ h = h0
set_option maxRecDepth 65536 in
set_option maxHeartbeats 40000000 in
theorem rm6 (l : Launch) (Z : State) (a0 : Array Value) (hw : ∀ d ∈ tables_1, d.before a0 Z = true) (ws : List Jvm.Cond) (a1 : Addr) (n1 : Int32) (h0 : Heap) (n0 : Nat) (Z0 : n0 ≤ h0.size) (F25 : Fld Z h0 a1 "com/example/totality/totality/core/ClusterSize" "nodes" "I" (.int n1)) :
    MetFree l (⟨"com/example/totality/totality/core/ClusterSize", "nodes", "()I"⟩ : MethodName) (head1 (Jvm.Cond.code (⟨"com/example/totality/totality/core/ClusterSize", "nodes", "()I"⟩ : MethodName) prog_20_method_8_code 1 (some .int) :: ws) ({ frames := 0, cells := 0, slots := 0, locals := 0 } : Room)) (fun a U => a = #[(.ref a1)] ∧ Z.Warmed39 U.vm ∧ U.heap = h0) (fun _ _ _ _ _ => True) (fun _ U o U' => ∃ v L, o = .returned v ∧ Q_rm6 Z a1 n1 h0 n0 v U'.heap L ∧ FrameEnd U o U' L ({ frames := 0, cells := 0, slots := 0, locals := 0 } : Room).cells ({ frames := 0, cells := 0, slots := 0, locals := 0 } : Room).slots) := by
  refine MetFree.of_bodySF (plainFor_of_name pn_1) hisR ?_
  intro p e s m args below meth c s₁ Bd hml0 hP hK
  obtain ⟨rfl, hZ, hh⟩ := hP
  have hx := Bd.exec
  have hby := Bd.bytes
  have hml : c.maxLocals = 1 := hml0
  have hown : s.vm.findClass "com/example/totality/totality/core/ClusterSize" = some m.cls := findClass_of_methodNamed Bd.named
  have hnm := (name_of_methodNamed Bd.named Bd.method).1
  have X0 : Stand p l e ({ frames := 0, cells := 0, slots := 0, locals := 0 } : Room) s m #[(.ref a1)] below meth c s₁ [] 0 0 := Stand.of_body Bd
  have e0 : s₁.heap = h0 := by rw [← hh, Bd.state]; rfl
  have N0 := Fr.nil n0
  have pre0 : ∀ t, Steps p.tables e below (s₁.setTop (mkF m 0 #[.val (.ref a1)] [])) t → Steps p.tables e below (s₁.setTop (entryFrame m #[(.ref a1)] 1)) t := fun t k => castTop (ef_rm6 m a1) k
  have S26 : ∀ t, Steps p.tables e below (s₁.setTop (mkF m 1 #[.val (.ref a1)] [(.ref a1)])) t → Steps p.tables e below (s₁.setTop (mkF m 0 #[.val (.ref a1)] [])) t := by
    intro t kt
    show Steps p.tables e below (s₁.setTop (mkF m 0 #[.val (.ref a1)] [])) _
    refine XS.aloadN X0.here hx rfl (hb hby d6_0) rfl rfl ?_
    exact kt
  obtain ⟨T27, X27, e27, st27⟩ := getF X0 hx hZ hown (host := "") (Or.inl (hw _ (List.mem_of_getElem? (i := 19) rfl))) Via.refl e0 F25 (g := (mkF m 1 #[.val (.ref a1)] [(.ref a1)])) rfl rfl (hb hby d6_1)
  have C28 : ∀ t, Steps p.tables e below (T27.setTop (mkF m 4 #[.val (.ref a1)] [(.int n1)])) t → Steps p.tables e below (s₁.setTop (mkF m 0 #[.val (.ref a1)] [])) t := (fun t k => (S26 t (st27 t k)))
  obtain ⟨fs, hr, hrun, hended, hW, hsame⟩ := X27.leave (v := some (.int n1)) (fun h => by rw [Bd.returns] at h; cases h)
  refine ⟨_, _, pre0 _ (C28 _ ?_), hrun, hended, _, _, rfl, ?_, ⟨_, rfl⟩, hW, hsame.mono (by decide) (by decide)⟩
  · exact retOut X27 hx (t := .int) Bd.returns rfl (Or.inl ⟨rfl, Or.inl rfl, _, rfl⟩) (hb hby d6_4) hr
  · show Q_rm6 Z a1 n1 h0 n0 _ T27.heap _
    rw [e27]
    exact ⟨rfl, N0, rfl⟩
theorem ef_rm7 (m : MethodId) (x0 : Addr) (x1 : Int32) : entryFrame m #[(.ref x0), (.int x1)] 2 = mkF m 0 #[.val (.ref x0), .val (.int x1)] [] := by first | (simp [entryFrame, mkF, argsToLocals, Value.category]; done) | rfl
def Q_rm7 (Z : State) (a1 : Addr) (n1 : Int32) (f1 : Int32) (h0 : Heap) (n0 : Nat) (v : Option Value) (h : Heap) (L : List Loc) : Prop := v = none ∧ Fr n0 L ∧ Keep h0 h [a1]
set_option maxRecDepth 65536 in
set_option maxHeartbeats 40000000 in
theorem rm7 (l : Launch) (Z : State) (a0 : Array Value) (hw : ∀ d ∈ tables_1, d.before a0 Z = true) (ws : List Jvm.Cond) (a1 : Addr) (n1 : Int32) (f1 : Int32) (h0 : Heap) (n0 : Nat) (Z0 : n0 ≤ h0.size) (F29 : Exa Z h0 a1 "com/example/totality/totality/core/Votes") (F30 : Fld Z h0 a1 "com/example/totality/totality/core/Votes" "votedFor" "[Lcom/example/totality/totality/core/Digest;" .null) (F31 : Fld Z h0 a1 "com/example/totality/totality/core/Votes" "counts" "[I" .null) (F32 : Fld Z h0 a1 "com/example/totality/totality/core/Votes" "cast" "[Z" .null) (g_a1 : n0 ≤ a1) (hok : own_ok n1 f1) :
    MetFree l (⟨"com/example/totality/totality/core/Votes", "<init>", "(I)V"⟩ : MethodName) (head1 (Jvm.Cond.code (⟨"com/example/totality/totality/core/Votes", "<init>", "(I)V"⟩ : MethodName) prog_59_method_1_code 2 none :: ws) ({ frames := 1, cells := 3, slots := 102, locals := 12 } : Room)) (fun a U => a = #[(.ref a1), (.int n1)] ∧ Z.Warmed39 U.vm ∧ U.heap = h0) (fun _ _ _ _ _ => True) (fun _ U o U' => ∃ v L, o = .returned v ∧ Q_rm7 Z a1 n1 f1 h0 n0 v U'.heap L ∧ FrameEnd U o U' L ({ frames := 1, cells := 3, slots := 102, locals := 12 } : Room).cells ({ frames := 1, cells := 3, slots := 102, locals := 12 } : Room).slots) := by
  refine MetFree.of_bodySF (plainFor_of_name pn_2) hisR ?_
  intro p e s m args below meth c s₁ Bd hml0 hP hK
  obtain ⟨rfl, hZ, hh⟩ := hP
  have hx := Bd.exec
  have hby := Bd.bytes
  have hml : c.maxLocals = 2 := hml0
  have hown : s.vm.findClass "com/example/totality/totality/core/Votes" = some m.cls := findClass_of_methodNamed Bd.named
  have hnm := (name_of_methodNamed Bd.named Bd.method).1
  have X0 : Stand p l e ({ frames := 1, cells := 3, slots := 102, locals := 12 } : Room) s m #[(.ref a1), (.int n1)] below meth c s₁ [] 0 0 := Stand.of_body Bd
  have e0 : s₁.heap = h0 := by rw [← hh, Bd.state]; rfl
  have N0 := Fr.nil n0
  have pre0 : ∀ t, Steps p.tables e below (s₁.setTop (mkF m 0 #[.val (.ref a1), .val (.int n1)] [])) t → Steps p.tables e below (s₁.setTop (entryFrame m #[(.ref a1), (.int n1)] 2)) t := fun t k => castTop (ef_rm7 m a1 n1) k
  have S33 : ∀ t, Steps p.tables e below (s₁.setTop (mkF m 1 #[.val (.ref a1), .val (.int n1)] [(.ref a1)])) t → Steps p.tables e below (s₁.setTop (mkF m 0 #[.val (.ref a1), .val (.int n1)] [])) t := by
    intro t kt
    show Steps p.tables e below (s₁.setTop (mkF m 0 #[.val (.ref a1), .val (.int n1)] [])) _
    refine XS.aloadN X0.here hx rfl (hb hby d7_0) rfl rfl ?_
    exact kt
  obtain ⟨T34, X34, e34, st34⟩ := initO X0 hx hZ hown (hw _ (List.mem_of_getElem? (i := 45) rfl)) (hw _ (List.mem_of_getElem? (i := 16) rfl)) (hw _ (List.mem_of_getElem? (i := 17) rfl)) e0 (g := (mkF m 1 #[.val (.ref a1), .val (.int n1)] [(.ref a1)])) rfl (by rw [hml]; rfl) rfl (hb hby d7_1) (by decide) (W := 0) (by show 2 * 0 + _ ≤ _; exact Nat.le_of_eq rfl) (by decide)
  have S35 : ∀ t, Steps p.tables e below (T34.setTop (mkF m 6 #[.val (.ref a1), .val (.int n1)] [(.int (1 : Int32)), (.ref a1)])) t → Steps p.tables e below (T34.setTop (mkF m 4 #[.val (.ref a1), .val (.int n1)] [])) t := by
    intro t kt
    show Steps p.tables e below (T34.setTop (mkF m 4 #[.val (.ref a1), .val (.int n1)] [])) _
    refine XS.aloadN X34.here hx rfl (hb hby d7_4) rfl rfl ?_
    show Steps p.tables e below (T34.setTop (mkF m 5 #[.val (.ref a1), .val (.int n1)] [(.ref a1)])) _
    refine XS.iconst X34.here hx rfl (hb hby d7_5) ?_
    exact kt
  obtain ⟨T36, h36, k36, X36, e36, E36, A36, O36, st36⟩ := newR X34 hx hZ hown (hw _ (List.mem_of_getElem? (i := 46) rfl)) (hw _ (List.mem_of_getElem? (i := 47) rfl)) e34 (g := (mkF m 6 #[.val (.ref a1), .val (.int n1)] [(.int (1 : Int32)), (.ref a1)])) rfl (hb hby d7_6) rfl (by decide) (cap := 1) (by decide) (by decide) (by decide) (by decide)
  obtain ⟨b36, g36⟩ : ∃ z, z = h0.size := ⟨_, rfl⟩
  rw [← g36] at A36 st36
  have g_b36 : n0 ≤ b36 := Nat.le_trans Z0 (Nat.le_of_eq g36.symm)
  have K37 := (Keep.refl h0 [a1])
  have sz_b36 : h0.size ≤ b36 := Nat.le_trans K37.1 (Nat.le_of_eq g36.symm)
  have ne_a1_b36 : a1 ≠ b36 := Nat.ne_of_lt (Nat.lt_of_lt_of_le F29.lt (Nat.le_of_eq g36.symm))
  have z38 : n0 ≤ h36.size := Nat.le_trans Z0 E36.1
  have f39 := (F30.ext E36)
  have f40 := (F29.ext E36)
  obtain ⟨T41, h41, X41, e41, W41, st41⟩ := putF X36 hx hZ hown (host := "") (Or.inl (hw _ (List.mem_of_getElem? (i := 48) rfl))) Via.refl e36 f39 f40 (Or.inl (hw _ (List.mem_of_getElem? (i := 49) rfl))) (hw _ (List.mem_of_getElem? (i := 35) rfl)) (ty := (.array (.object "com/example/totality/totality/core/Digest"))) (by decide) rfl rfl (g := (mkF m 9 #[.val (.ref a1), .val (.int n1)] [(.ref b36), (.ref a1)])) rfl rfl (hb hby d7_9)
  have z42 : n0 ≤ h41.size := Nat.le_trans z38 (Keep.of_wr W41).1
  have N43 := Fr.snoc X41 N0 g_a1
  have Fw41 := f39.same W41
  have S44 : ∀ t, Steps p.tables e below (T41.setTop (mkF m 14 #[.val (.ref a1), .val (.int n1)] [(.int (1 : Int32)), (.ref a1)])) t → Steps p.tables e below (T41.setTop (mkF m 12 #[.val (.ref a1), .val (.int n1)] [])) t := by
    intro t kt
    show Steps p.tables e below (T41.setTop (mkF m 12 #[.val (.ref a1), .val (.int n1)] [])) _
    refine XS.aloadN X41.here hx rfl (hb hby d7_12) rfl rfl ?_
    show Steps p.tables e below (T41.setTop (mkF m 13 #[.val (.ref a1), .val (.int n1)] [(.ref a1)])) _
    refine XS.iconst X41.here hx rfl (hb hby d7_13) ?_
    exact kt
  obtain ⟨T45, h45, k45, X45, e45, E45, A45, st45⟩ := newP X41 hx hZ (hw _ (List.mem_of_getElem? (i := 50) rfl)) e41 (g := (mkF m 14 #[.val (.ref a1), .val (.int n1)] [(.int (1 : Int32)), (.ref a1)])) rfl (hb hby d7_14) rfl (by decide) (cap := 1) (by decide) (by decide) (by decide) (by decide)
  obtain ⟨b45, g45⟩ : ∃ z, z = h41.size := ⟨_, rfl⟩
  rw [← g45] at A45 st45
  have g_b45 : n0 ≤ b45 := Nat.le_trans z42 (Nat.le_of_eq g45.symm)
  have K46 := ((K37.ext E36).wr W41 (Or.inl (List.mem_of_getElem? (i := 0) rfl)))
  have sz_b45 : h0.size ≤ b45 := Nat.le_trans K46.1 (Nat.le_of_eq g45.symm)
  have f47 := (f40.wr W41)
  have ne_a1_b45 : a1 ≠ b45 := Nat.ne_of_lt (Nat.lt_of_lt_of_le f47.lt (Nat.le_of_eq g45.symm))
  have z48 : n0 ≤ h45.size := Nat.le_trans z42 E45.1
  have V45 : ArF Z h45 b45 .int 1 (fun _ => (.int (0 : Int32))) := ArF.new A45 (by decide) rfl
  have f49 := (((F31.ext E36).other W41 (Or.inr (slot_ne (Or.inl (hw _ (List.mem_of_getElem? (i := 52) rfl))) (Or.inl (hw _ (List.mem_of_getElem? (i := 49) rfl))) (by decide) (t := (.array .int)) (t' := (.array (.object "com/example/totality/totality/core/Digest"))) (by decide) (by decide)))).ext E45)
  have f50 := (f47.ext E45)
  obtain ⟨T51, h51, X51, e51, W51, st51⟩ := putF X45 hx hZ hown (host := "") (Or.inl (hw _ (List.mem_of_getElem? (i := 51) rfl))) Via.refl e45 f49 f50 (Or.inl (hw _ (List.mem_of_getElem? (i := 52) rfl))) (hw _ (List.mem_of_getElem? (i := 35) rfl)) (ty := (.array .int)) (by decide) rfl rfl (g := (mkF m 16 #[.val (.ref a1), .val (.int n1)] [(.ref b45), (.ref a1)])) rfl rfl (hb hby d7_16)
  have z52 : n0 ≤ h51.size := Nat.le_trans z48 (Keep.of_wr W51).1
  have N53 := Fr.snoc X51 N43 g_a1
  have Fw51 := f49.same W51
  have S54 : ∀ t, Steps p.tables e below (T51.setTop (mkF m 21 #[.val (.ref a1), .val (.int n1)] [(.int n1), (.ref a1)])) t → Steps p.tables e below (T51.setTop (mkF m 19 #[.val (.ref a1), .val (.int n1)] [])) t := by
    intro t kt
    show Steps p.tables e below (T51.setTop (mkF m 19 #[.val (.ref a1), .val (.int n1)] [])) _
    refine XS.aloadN X51.here hx rfl (hb hby d7_19) rfl rfl ?_
    show Steps p.tables e below (T51.setTop (mkF m 20 #[.val (.ref a1), .val (.int n1)] [(.ref a1)])) _
    refine XS.iloadN X51.here hx rfl (hb hby d7_20) rfl ?_
    exact kt
  obtain ⟨T55, h55, k55, X55, e55, E55, A55, st55⟩ := newP X51 hx hZ (hw _ (List.mem_of_getElem? (i := 53) rfl)) e51 (g := (mkF m 21 #[.val (.ref a1), .val (.int n1)] [(.int n1), (.ref a1)])) rfl (hb hby d7_21) rfl (own_n0 hok) (cap := 100) (own_n100 hok) (by decide) (by decide) (by decide)
  obtain ⟨b55, g55⟩ : ∃ z, z = h51.size := ⟨_, rfl⟩
  rw [← g55] at A55 st55
  have g_b55 : n0 ≤ b55 := Nat.le_trans z52 (Nat.le_of_eq g55.symm)
  have K56 := ((K46.ext E45).wr W51 (Or.inl (List.mem_of_getElem? (i := 0) rfl)))
  have sz_b55 : h0.size ≤ b55 := Nat.le_trans K56.1 (Nat.le_of_eq g55.symm)
  have f57 := (f50.wr W51)
  have ne_a1_b55 : a1 ≠ b55 := Nat.ne_of_lt (Nat.lt_of_lt_of_le f57.lt (Nat.le_of_eq g55.symm))
  have f58 := (V45.other W51 (Ne.symm ne_a1_b45))
  have ne_b45_b55 : b45 ≠ b55 := Nat.ne_of_lt (Nat.lt_of_lt_of_le f58.lt (Nat.le_of_eq g55.symm))
  have z59 : n0 ≤ h55.size := Nat.le_trans z52 E55.1
  have V55 : ArF Z h55 b55 .boolean n1.toNatClampNeg (fun _ => (.int (0 : Int32))) := ArF.new A55 (own_n0 hok) rfl
  have f60 := (((((F32.ext E36).other W41 (Or.inr (slot_ne (Or.inr (hw _ (List.mem_of_getElem? (i := 55) rfl))) (Or.inl (hw _ (List.mem_of_getElem? (i := 49) rfl))) (by decide) (t := (.array .boolean)) (t' := (.array (.object "com/example/totality/totality/core/Digest"))) (by decide) (by decide)))).ext E45).other W51 (Or.inr (slot_ne (Or.inr (hw _ (List.mem_of_getElem? (i := 55) rfl))) (Or.inl (hw _ (List.mem_of_getElem? (i := 52) rfl))) (by decide) (t := (.array .boolean)) (t' := (.array .int)) (by decide) (by decide)))).ext E55)
  have f61 := (f57.ext E55)
  obtain ⟨T62, h62, X62, e62, W62, st62⟩ := putF X55 hx hZ hown (host := "") (Or.inl (hw _ (List.mem_of_getElem? (i := 54) rfl))) Via.refl e55 f60 f61 (Or.inr ⟨(hw _ (List.mem_of_getElem? (i := 55) rfl)), rfl, hnm⟩) (hw _ (List.mem_of_getElem? (i := 35) rfl)) (ty := (.array .boolean)) (by decide) rfl rfl (g := (mkF m 23 #[.val (.ref a1), .val (.int n1)] [(.ref b55), (.ref a1)])) rfl rfl (hb hby d7_23)
  have z63 : n0 ≤ h62.size := Nat.le_trans z59 (Keep.of_wr W62).1
  have N64 := Fr.snoc X62 N53 g_a1
  have Fw62 := f60.same W62
  have C65 : ∀ t, Steps p.tables e below (T62.setTop (mkF m 26 #[.val (.ref a1), .val (.int n1)] [])) t → Steps p.tables e below (s₁.setTop (mkF m 0 #[.val (.ref a1), .val (.int n1)] [])) t := (fun t k => (S33 t (st34 t (S35 t (st36 t (st41 t (S44 t (st45 t (st51 t (S54 t (st55 t (st62 t k))))))))))))
  obtain ⟨fs, hr, hrun, hended, hW, hsame⟩ := X62.leave (v := none) (fun _ => rfl)
  refine ⟨_, _, pre0 _ (C65 _ ?_), hrun, hended, _, _, rfl, ?_, ⟨_, rfl⟩, hW, hsame.mono (by decide) (by decide)⟩
  · exact X62.returnOut hx Bd.returns (hb hby d7_26) hr
  · show Q_rm7 Z a1 n1 f1 h0 n0 _ T62.heap _
    rw [e62]
    exact ⟨rfl, N64, ((K56.ext E55).wr W62 (Or.inl (List.mem_of_getElem? (i := 0) rfl)))⟩
theorem ef_rm4 (m : MethodId) (x0 : Addr) (x1 : Addr) : entryFrame m #[(.ref x0), (.ref x1)] 2 = mkF m 0 #[.val (.ref x0), .val (.ref x1)] [] := by first | (simp [entryFrame, mkF, argsToLocals, Value.category]; done) | rfl
def Q_rm4 (Z : State) (a1 : Addr) (b1 : Addr) (n1 : Int32) (f1 : Int32) (h0 : Heap) (n0 : Nat) (v : Option Value) (h : Heap) (L : List Loc) : Prop := v = none ∧ Fr n0 L ∧ Keep h0 h [a1] ∧ Fld Z h a1 "com/example/totality/totality/core/ReadyRound" "faulty" "I" (.int f1)
set_option maxRecDepth 65536 in
set_option maxHeartbeats 40000000 in
theorem rm4 (l : Launch) (Z : State) (a0 : Array Value) (hw : ∀ d ∈ tables_1, d.before a0 Z = true) (ws : List Jvm.Cond) (a1 : Addr) (b1 : Addr) (n1 : Int32) (f1 : Int32) (h0 : Heap) (n0 : Nat) (Z0 : n0 ≤ h0.size) (F66 : Exa Z h0 a1 "com/example/totality/totality/core/ReadyRound") (F67 : Fld Z h0 a1 "com/example/totality/totality/core/ReadyRound" "faulty" "I" (.int (0 : Int32))) (F68 : Fld Z h0 a1 "com/example/totality/totality/core/ReadyRound" "readies" "Lcom/example/totality/totality/core/Votes;" .null) (F69 : Exa Z h0 b1 "com/example/totality/totality/core/ClusterSize") (F70 : Fld Z h0 b1 "com/example/totality/totality/core/ClusterSize" "nodes" "I" (.int n1)) (F71 : Fld Z h0 b1 "com/example/totality/totality/core/ClusterSize" "faulty" "I" (.int f1)) (g_a1 : n0 ≤ a1) (ne_a1_b1 : a1 ≠ b1) (hok : own_ok n1 f1) :
    MetFree l (⟨"com/example/totality/totality/core/ReadyRound", "<init>", "(Lcom/example/totality/totality/core/ClusterSize;)V"⟩ : MethodName) (head1 (Jvm.Cond.code (⟨"com/example/totality/totality/core/ReadyRound", "<init>", "(Lcom/example/totality/totality/core/ClusterSize;)V"⟩ : MethodName) prog_51_method_1_code 2 none :: ws) ({ frames := 2, cells := 4, slots := 106, locals := 27 } : Room)) (fun a U => a = #[(.ref a1), (.ref b1)] ∧ Z.Warmed39 U.vm ∧ U.heap = h0) (fun _ _ _ _ _ => True) (fun _ U o U' => ∃ v L, o = .returned v ∧ Q_rm4 Z a1 b1 n1 f1 h0 n0 v U'.heap L ∧ FrameEnd U o U' L ({ frames := 2, cells := 4, slots := 106, locals := 27 } : Room).cells ({ frames := 2, cells := 4, slots := 106, locals := 27 } : Room).slots) := by
  refine MetFree.of_bodySF (plainFor_of_name pn_3) hisR ?_
  intro p e s m args below meth c s₁ Bd hml0 hP hK
  obtain ⟨rfl, hZ, hh⟩ := hP
  have hx := Bd.exec
  have hby := Bd.bytes
  have hml : c.maxLocals = 2 := hml0
  have hown : s.vm.findClass "com/example/totality/totality/core/ReadyRound" = some m.cls := findClass_of_methodNamed Bd.named
  have hnm := (name_of_methodNamed Bd.named Bd.method).1
  have X0 : Stand p l e ({ frames := 2, cells := 4, slots := 106, locals := 27 } : Room) s m #[(.ref a1), (.ref b1)] below meth c s₁ [] 0 0 := Stand.of_body Bd
  have e0 : s₁.heap = h0 := by rw [← hh, Bd.state]; rfl
  have N0 := Fr.nil n0
  have pre0 : ∀ t, Steps p.tables e below (s₁.setTop (mkF m 0 #[.val (.ref a1), .val (.ref b1)] [])) t → Steps p.tables e below (s₁.setTop (entryFrame m #[(.ref a1), (.ref b1)] 2)) t := fun t k => castTop (ef_rm4 m a1 b1) k
  have S72 : ∀ t, Steps p.tables e below (s₁.setTop (mkF m 1 #[.val (.ref a1), .val (.ref b1)] [(.ref a1)])) t → Steps p.tables e below (s₁.setTop (mkF m 0 #[.val (.ref a1), .val (.ref b1)] [])) t := by
    intro t kt
    show Steps p.tables e below (s₁.setTop (mkF m 0 #[.val (.ref a1), .val (.ref b1)] [])) _
    refine XS.aloadN X0.here hx rfl (hb hby d4_0) rfl rfl ?_
    exact kt
  obtain ⟨T73, X73, e73, st73⟩ := initO X0 hx hZ hown (hw _ (List.mem_of_getElem? (i := 26) rfl)) (hw _ (List.mem_of_getElem? (i := 16) rfl)) (hw _ (List.mem_of_getElem? (i := 17) rfl)) e0 (g := (mkF m 1 #[.val (.ref a1), .val (.ref b1)] [(.ref a1)])) rfl (by rw [hml]; rfl) rfl (hb hby d4_1) (by decide) (W := 0) (by show 2 * 0 + _ ≤ _; exact Nat.le_of_eq rfl) (by decide)
  have S74 : ∀ t, Steps p.tables e below (T73.setTop (mkF m 6 #[.val (.ref a1), .val (.ref b1)] [(.ref b1), (.ref a1)])) t → Steps p.tables e below (T73.setTop (mkF m 4 #[.val (.ref a1), .val (.ref b1)] [])) t := by
    intro t kt
    show Steps p.tables e below (T73.setTop (mkF m 4 #[.val (.ref a1), .val (.ref b1)] [])) _
    refine XS.aloadN X73.here hx rfl (hb hby d4_4) rfl rfl ?_
    show Steps p.tables e below (T73.setTop (mkF m 5 #[.val (.ref a1), .val (.ref b1)] [(.ref a1)])) _
    refine XS.aloadN X73.here hx rfl (hb hby d4_5) rfl rfl ?_
    exact kt
  obtain ⟨cq75, kq75, q75a, q75b, q75c⟩ := isOf hZ e73 F69
  obtain ⟨_, _, ⟨T75, L75, k75, n75⟩, -, X75, ⟨Lc75, hQ75, l75, y75, z75⟩, st75⟩ := X73.virtualBack hx (y := (⟨"com/example/totality/totality/core/ClusterSize", "faulty", "()I"⟩ : MethodName)) (z := (⟨"com/example/totality/totality/core/ClusterSize", "faulty", "()I"⟩ : MethodName)) hown (mvT hZ (hw _ (List.mem_of_getElem? (i := 27) rfl))) (mvT hZ (hw _ (List.mem_of_getElem? (i := 28) rfl))) (notFace_of_selects (args := #[]) (mvT hZ (hw _ (List.mem_of_getElem? (i := 30) rfl)))) (mvT hZ (hw _ (List.mem_of_getElem? (i := 30) rfl))) (mvT hZ (hw _ (List.mem_of_getElem? (i := 29) rfl))) (by decide) (backOf (W := 1) (rm5 l Z a0 hw [] b1 f1 h0 n0 Z0 F71) hZ (hw _ (List.mem_of_getElem? (i := 31) rfl)) (hw _ (List.mem_of_getElem? (i := 6) rfl)) (by decide) (by decide)) q75a q75c (g := (mkF m 6 #[.val (.ref a1), .val (.ref b1)] [(.ref b1), (.ref a1)])) rfl (by rw [hml]; rfl) (Steps.refl _) (argsL := []) (rest := [(.ref a1)]) (lenOf pd_1 rfl) rfl (by show 2 * 0 + _ ≤ _; exact Nat.le_of_eq rfl) (hb hby d4_6) (fun _ _ => ⟨rfl, e73, (by decide : 0 + 0 ≤ _), (by decide : 0 + 0 ≤ _)⟩)
  dsimp only [Pt.U, Pt.locs, Pt.cells, Pt.slots] at X75 l75 y75 z75 st75 hQ75
  subst l75 y75 z75
  obtain ⟨rfl, N75q, e75⟩ := hQ75
  have N75 := Fr.app N0 N75q
  obtain ⟨T76, h76, X76, e76, W76, st76⟩ := putF X75 hx hZ hown (host := "") (Or.inl (hw _ (List.mem_of_getElem? (i := 32) rfl))) Via.refl e75 F67 F66 (Or.inr ⟨(hw _ (List.mem_of_getElem? (i := 33) rfl)), rfl, hnm⟩) (hw _ (List.mem_of_getElem? (i := 2) rfl)) (ty := .int) (by decide) rfl rfl (g := (mkF m 9 #[.val (.ref a1), .val (.ref b1)] [(.int f1), (.ref a1)])) rfl rfl (hb hby d4_9)
  have z77 : n0 ≤ h76.size := Nat.le_trans Z0 (Keep.of_wr W76).1
  have N78 := Fr.snoc X76 N75 g_a1
  have Fw76 := F67.same W76
  have S79 : ∀ t, Steps p.tables e below (T76.setTop (mkF m 13 #[.val (.ref a1), .val (.ref b1)] [(.ref a1)])) t → Steps p.tables e below (T76.setTop (mkF m 12 #[.val (.ref a1), .val (.ref b1)] [])) t := by
    intro t kt
    show Steps p.tables e below (T76.setTop (mkF m 12 #[.val (.ref a1), .val (.ref b1)] [])) _
    refine XS.aloadN X76.here hx rfl (hb hby d4_12) rfl rfl ?_
    exact kt
  obtain ⟨T80, h80, X80, e80, E80, A80, D80, -, st80⟩ := newO X76 hx hZ hown (hw _ (List.mem_of_getElem? (i := 34) rfl)) (hw _ (List.mem_of_getElem? (i := 35) rfl)) (hw _ (List.mem_of_getElem? (i := 36) rfl)) e76 (g := (mkF m 13 #[.val (.ref a1), .val (.ref b1)] [(.ref a1)])) rfl (hb hby d4_13) (by decide) (by decide)
  obtain ⟨b80, g80⟩ : ∃ z, z = h76.size := ⟨_, rfl⟩
  rw [← g80] at A80 D80 st80
  have g_b80 : n0 ≤ b80 := Nat.le_trans z77 (Nat.le_of_eq g80.symm)
  have K81 := ((Keep.refl h0 [a1]).wr W76 (Or.inl (List.mem_of_getElem? (i := 0) rfl)))
  have sz_b80 : h0.size ≤ b80 := Nat.le_trans K81.1 (Nat.le_of_eq g80.symm)
  have f82 := (F66.wr W76)
  have ne_a1_b80 : a1 ≠ b80 := Nat.ne_of_lt (Nat.lt_of_lt_of_le f82.lt (Nat.le_of_eq g80.symm))
  have f83 := (F69.wr W76)
  have ne_b1_b80 : b1 ≠ b80 := Nat.ne_of_lt (Nat.lt_of_lt_of_le f83.lt (Nat.le_of_eq g80.symm))
  have z84 : n0 ≤ h80.size := Nat.le_trans z77 E80.1
  have F85 : Fld Z h80 b80 "com/example/totality/totality/core/Votes" "votedFor" "[Lcom/example/totality/totality/core/Digest;" .null := D80 (Or.inl (hw _ (List.mem_of_getElem? (i := 49) rfl))) (ty := (.array (.object "com/example/totality/totality/core/Digest"))) (by decide)
  have F86 : Fld Z h80 b80 "com/example/totality/totality/core/Votes" "counts" "[I" .null := D80 (Or.inl (hw _ (List.mem_of_getElem? (i := 52) rfl))) (ty := (.array .int)) (by decide)
  have F87 : Fld Z h80 b80 "com/example/totality/totality/core/Votes" "cast" "[Z" .null := D80 (Or.inr (hw _ (List.mem_of_getElem? (i := 55) rfl))) (ty := (.array .boolean)) (by decide)
  have f88 := ((F70.other W76 (Or.inl (Ne.symm ne_a1_b1))).ext E80)
  have S89 : ∀ t, Steps p.tables e below (T80.setTop (mkF m 18 #[.val (.ref a1), .val (.ref b1)] [(.ref b1), (.ref b80), (.ref b80), (.ref a1)])) t → Steps p.tables e below (T80.setTop (mkF m 16 #[.val (.ref a1), .val (.ref b1)] [(.ref b80), (.ref a1)])) t := by
    intro t kt
    show Steps p.tables e below (T80.setTop (mkF m 16 #[.val (.ref a1), .val (.ref b1)] [(.ref b80), (.ref a1)])) _
    refine XS.dup X80.here hx rfl (hb hby d4_16) rfl rfl ?_
    show Steps p.tables e below (T80.setTop (mkF m 17 #[.val (.ref a1), .val (.ref b1)] [(.ref b80), (.ref b80), (.ref a1)])) _
    refine XS.aloadN X80.here hx rfl (hb hby d4_17) rfl rfl ?_
    exact kt
  have f91 := (f83.ext E80)
  obtain ⟨cq90, kq90, q90a, q90b, q90c⟩ := isOf hZ e80 f91
  obtain ⟨_, _, ⟨T90, L90, k90, n90⟩, -, X90, ⟨Lc90, hQ90, l90, y90, z90⟩, st90⟩ := X80.virtualBack hx (y := (⟨"com/example/totality/totality/core/ClusterSize", "nodes", "()I"⟩ : MethodName)) (z := (⟨"com/example/totality/totality/core/ClusterSize", "nodes", "()I"⟩ : MethodName)) hown (mvT hZ (hw _ (List.mem_of_getElem? (i := 37) rfl))) (mvT hZ (hw _ (List.mem_of_getElem? (i := 38) rfl))) (notFace_of_selects (args := #[]) (mvT hZ (hw _ (List.mem_of_getElem? (i := 40) rfl)))) (mvT hZ (hw _ (List.mem_of_getElem? (i := 40) rfl))) (mvT hZ (hw _ (List.mem_of_getElem? (i := 39) rfl))) (by decide) (backOf (W := 3) (rm6 l Z a0 hw [] b1 n1 h80 n0 z84 f88) hZ (hw _ (List.mem_of_getElem? (i := 41) rfl)) (hw _ (List.mem_of_getElem? (i := 6) rfl)) (by decide) (by decide)) q90a q90c (g := (mkF m 18 #[.val (.ref a1), .val (.ref b1)] [(.ref b1), (.ref b80), (.ref b80), (.ref a1)])) rfl (by rw [hml]; rfl) (Steps.refl _) (argsL := []) (rest := [(.ref b80), (.ref b80), (.ref a1)]) (lenOf pd_1 rfl) rfl (by show 2 * 0 + _ ≤ _; exact Nat.le_of_eq rfl) (hb hby d4_18) (fun _ _ => ⟨rfl, e80, (by decide : 1 + 0 ≤ _), (by decide : 4 + 0 ≤ _)⟩)
  dsimp only [Pt.U, Pt.locs, Pt.cells, Pt.slots] at X90 l90 y90 z90 st90 hQ90
  subst l90 y90 z90
  obtain ⟨rfl, N90q, e90⟩ := hQ90
  have N90 := Fr.app N78 N90q
  obtain ⟨_, _, ⟨T92, L92, k92, n92⟩, -, X92, ⟨Lc92, hQ92, l92, y92, z92⟩, st92⟩ := X90.specialBack hx (y := (⟨"com/example/totality/totality/core/Votes", "<init>", "(I)V"⟩ : MethodName)) rfl hown (mvT hZ (hw _ (List.mem_of_getElem? (i := 42) rfl))) (mvT hZ (hw _ (List.mem_of_getElem? (i := 43) rfl))) (mvT hZ (hw _ (List.mem_of_getElem? (i := 44) rfl))) (by decide) (backOf (W := 2) (rm7 l Z a0 hw [] b80 n1 f1 h80 n0 z84 A80 F85 F86 F87 g_b80 hok) hZ (hw _ (List.mem_of_getElem? (i := 44) rfl)) (hw _ (List.mem_of_getElem? (i := 36) rfl)) (by decide) (by decide)) (g := (mkF m 21 #[.val (.ref a1), .val (.ref b1)] [(.int n1), (.ref b80), (.ref b80), (.ref a1)])) rfl (by rw [hml]; rfl) (Steps.refl _) (a := b80) (argsL := [(.int n1)]) (rest := [(.ref b80), (.ref a1)]) (lenOf pd_2 rfl) rfl (by show 2 * 0 + _ ≤ _; exact Nat.le_of_eq rfl) (hb hby d4_21) (fun _ _ => ⟨rfl, e90, (by decide : 1 + 3 ≤ _), (by decide : 4 + 102 ≤ _)⟩)
  dsimp only [Pt.U, Pt.locs, Pt.cells, Pt.slots] at X92 l92 y92 z92 st92 hQ92
  subst l92 y92 z92
  obtain ⟨h92, e92⟩ : ∃ z, T92.heap = z := ⟨_, rfl⟩
  rw [e92] at hQ92
  obtain ⟨rfl, N92q, K92q⟩ := hQ92
  have z93 : n0 ≤ h92.size := Nat.le_trans z84 K92q.1
  have N92 := Fr.app N90 N92q
  have f94 := (((F68.other W76 (Or.inr (slot_ne (Or.inr (hw _ (List.mem_of_getElem? (i := 57) rfl))) (Or.inr (hw _ (List.mem_of_getElem? (i := 33) rfl))) (by decide) (t := (.object "com/example/totality/totality/core/Votes")) (t' := .int) (by decide) (by decide)))).ext E80).keep K92q (ninS ne_a1_b80 nin0))
  have f95 := ((f82.ext E80).keep K92q)
  obtain ⟨T96, h96, X96, e96, W96, st96⟩ := putF X92 hx hZ hown (host := "") (Or.inl (hw _ (List.mem_of_getElem? (i := 56) rfl))) Via.refl e92 f94 f95 (Or.inr ⟨(hw _ (List.mem_of_getElem? (i := 57) rfl)), rfl, hnm⟩) (hw _ (List.mem_of_getElem? (i := 2) rfl)) (ty := (.object "com/example/totality/totality/core/Votes")) (by decide) rfl rfl (g := (mkF m 24 #[.val (.ref a1), .val (.ref b1)] [(.ref b80), (.ref a1)])) rfl rfl (hb hby d4_24)
  have z97 : n0 ≤ h96.size := Nat.le_trans z93 (Keep.of_wr W96).1
  have N98 := Fr.snoc X96 N92 g_a1
  have Fw96 := f94.same W96
  have C99 : ∀ t, Steps p.tables e below (T96.setTop (mkF m 27 #[.val (.ref a1), .val (.ref b1)] [])) t → Steps p.tables e below (s₁.setTop (mkF m 0 #[.val (.ref a1), .val (.ref b1)] [])) t := (fun t k => (S72 t (st73 t (S74 t (st75.trans (st76 t (S79 t (st80 t (S89 t (st90.trans (st92.trans (st96 t k))))))))))))
  obtain ⟨fs, hr, hrun, hended, hW, hsame⟩ := X96.leave (v := none) (fun _ => rfl)
  refine ⟨_, _, pre0 _ (C99 _ ?_), hrun, hended, _, _, rfl, ?_, ⟨_, rfl⟩, hW, hsame.mono (by decide) (by decide)⟩
  · exact X96.returnOut hx Bd.returns (hb hby d4_27) hr
  · show Q_rm4 Z a1 b1 n1 f1 h0 n0 _ T96.heap _
    rw [e96]
    have f100 := (((Fw76.ext E80).keep K92q (ninS ne_a1_b80 nin0)).other W96 (Or.inr (slot_ne (Or.inr (hw _ (List.mem_of_getElem? (i := 33) rfl))) (Or.inr (hw _ (List.mem_of_getElem? (i := 57) rfl))) (by decide) (t := .int) (t' := (.object "com/example/totality/totality/core/Votes")) (by decide) (by decide))))
    exact ⟨rfl, N98, (((K81.ext E80).trans K92q (allS (Or.inr sz_b80) all0)).wr W96 (Or.inl (List.mem_of_getElem? (i := 0) rfl))), f100⟩
theorem ef_rm8 (m : MethodId) (x0 : Addr) (x1 : Int32) : entryFrame m #[(.ref x0), (.int x1)] 2 = mkF m 0 #[.val (.ref x0), .val (.int x1)] [] := by first | (simp [entryFrame, mkF, argsToLocals, Value.category]; done) | rfl
def Q_rm8 (Z : State) (a1 : Addr) (q1 : Int32) (f1 : Int32) (h0 : Heap) (n0 : Nat) (v : Option Value) (h : Heap) (L : List Loc) : Prop := v = some (.int (own_del f1 q1)) ∧ Fr n0 L ∧ h = h0
set_option maxRecDepth 65536 in
set_option maxHeartbeats 40000000 in
theorem rm8 (l : Launch) (Z : State) (a0 : Array Value) (hw : ∀ d ∈ tables_1, d.before a0 Z = true) (ws : List Jvm.Cond) (a1 : Addr) (q1 : Int32) (f1 : Int32) (h0 : Heap) (n0 : Nat) (Z0 : n0 ≤ h0.size) (F101 : Fld Z h0 a1 "com/example/totality/totality/core/ReadyRound" "faulty" "I" (.int f1)) :
    MetFree l (⟨"com/example/totality/totality/core/ReadyRound", "delivers", "(I)Z"⟩ : MethodName) (head1 (Jvm.Cond.code (⟨"com/example/totality/totality/core/ReadyRound", "delivers", "(I)Z"⟩ : MethodName) prog_51_method_4_code 2 (some .boolean) :: ws) ({ frames := 0, cells := 0, slots := 0, locals := 0 } : Room)) (fun a U => a = #[(.ref a1), (.int q1)] ∧ Z.Warmed39 U.vm ∧ U.heap = h0) (fun _ _ _ _ _ => True) (fun _ U o U' => ∃ v L, o = .returned v ∧ Q_rm8 Z a1 q1 f1 h0 n0 v U'.heap L ∧ FrameEnd U o U' L ({ frames := 0, cells := 0, slots := 0, locals := 0 } : Room).cells ({ frames := 0, cells := 0, slots := 0, locals := 0 } : Room).slots) := by
  refine MetFree.of_bodySF (plainFor_of_name pn_3) hisR ?_
  intro p e s m args below meth c s₁ Bd hml0 hP hK
  obtain ⟨rfl, hZ, hh⟩ := hP
  have hx := Bd.exec
  have hby := Bd.bytes
  have hml : c.maxLocals = 2 := hml0
  have hown : s.vm.findClass "com/example/totality/totality/core/ReadyRound" = some m.cls := findClass_of_methodNamed Bd.named
  have hnm := (name_of_methodNamed Bd.named Bd.method).1
  have X0 : Stand p l e ({ frames := 0, cells := 0, slots := 0, locals := 0 } : Room) s m #[(.ref a1), (.int q1)] below meth c s₁ [] 0 0 := Stand.of_body Bd
  have e0 : s₁.heap = h0 := by rw [← hh, Bd.state]; rfl
  have N0 := Fr.nil n0
  have pre0 : ∀ t, Steps p.tables e below (s₁.setTop (mkF m 0 #[.val (.ref a1), .val (.int q1)] [])) t → Steps p.tables e below (s₁.setTop (entryFrame m #[(.ref a1), (.int q1)] 2)) t := fun t k => castTop (ef_rm8 m a1 q1) k
  have S102 : ∀ t, Steps p.tables e below (s₁.setTop (mkF m 3 #[.val (.ref a1), .val (.int q1)] [(.ref a1), (.int (2 : Int32)), (.int q1)])) t → Steps p.tables e below (s₁.setTop (mkF m 0 #[.val (.ref a1), .val (.int q1)] [])) t := by
    intro t kt
    show Steps p.tables e below (s₁.setTop (mkF m 0 #[.val (.ref a1), .val (.int q1)] [])) _
    refine XS.iloadN X0.here hx rfl (hb hby d8_0) rfl ?_
    show Steps p.tables e below (s₁.setTop (mkF m 1 #[.val (.ref a1), .val (.int q1)] [(.int q1)])) _
    refine XS.iconst X0.here hx rfl (hb hby d8_1) ?_
    show Steps p.tables e below (s₁.setTop (mkF m 2 #[.val (.ref a1), .val (.int q1)] [(.int (2 : Int32)), (.int q1)])) _
    refine XS.aloadN X0.here hx rfl (hb hby d8_2) rfl rfl ?_
    exact kt
  obtain ⟨T103, X103, e103, st103⟩ := getF X0 hx hZ hown (host := "") (Or.inl (hw _ (List.mem_of_getElem? (i := 32) rfl))) Via.refl e0 F101 (g := (mkF m 3 #[.val (.ref a1), .val (.int q1)] [(.ref a1), (.int (2 : Int32)), (.int q1)])) rfl rfl (hb hby d8_3)
  have S104 : ∀ t, Steps p.tables e below (T103.setTop (mkF m 7 #[.val (.ref a1), .val (.int q1)] [(.int ((2 : Int32) * f1)), (.int q1)])) t → Steps p.tables e below (T103.setTop (mkF m 6 #[.val (.ref a1), .val (.int q1)] [(.int f1), (.int (2 : Int32)), (.int q1)])) t := by
    intro t kt
    show Steps p.tables e below (T103.setTop (mkF m 6 #[.val (.ref a1), .val (.int q1)] [(.int f1), (.int (2 : Int32)), (.int q1)])) _
    refine XS.imul X103.here hx rfl (hb hby d8_6) rfl ?_
    exact kt
  by_cases hc105 : ((2 : Int32) * f1) < q1
  · have S106 : ∀ t, Steps p.tables e below (T103.setTop (mkF m 15 #[.val (.ref a1), .val (.int q1)] [(.int (1 : Int32))])) t → Steps p.tables e below (T103.setTop (mkF m 7 #[.val (.ref a1), .val (.int q1)] [(.int ((2 : Int32) * f1)), (.int q1)])) t := by
      intro t kt
      show Steps p.tables e below (T103.setTop (mkF m 7 #[.val (.ref a1), .val (.int q1)] [(.int ((2 : Int32) * f1)), (.int q1)])) _
      refine XS.icmpNo X103.here hx rfl (hb hby d8_7) rfl (tlt hc105).2.2.2 ?_
      show Steps p.tables e below (T103.setTop (mkF m 10 #[.val (.ref a1), .val (.int q1)] [])) _
      refine XS.iconst X103.here hx rfl (hb hby d8_10) ?_
      show Steps p.tables e below (T103.setTop (mkF m 11 #[.val (.ref a1), .val (.int q1)] [(.int (1 : Int32))])) _
      refine XS.goto X103.here hx rfl (pc0 := 11) (pc' := 15) rfl (hb hby d8_11) (by decide) (by decide) ?_
      exact kt
    have C107 : ∀ t, Steps p.tables e below (T103.setTop (mkF m 15 #[.val (.ref a1), .val (.int q1)] [(.int (1 : Int32))])) t → Steps p.tables e below (s₁.setTop (mkF m 0 #[.val (.ref a1), .val (.int q1)] [])) t := (fun t k => (S102 t (st103 t (S104 t (S106 t k)))))
    obtain ⟨fs, hr, hrun, hended, hW, hsame⟩ := X103.leave (v := some (.int (1 : Int32))) (fun h => by rw [Bd.returns] at h; cases h)
    refine ⟨_, _, pre0 _ (C107 _ ?_), hrun, hended, _, _, rfl, ?_, ⟨_, rfl⟩, hW, hsame.mono (by decide) (by decide)⟩
    · exact retN X103 hx (t := .boolean) Bd.returns (by simp) (hb hby d8_15) hr
    · show Q_rm8 Z a1 q1 f1 h0 n0 _ T103.heap _
      rw [e103]
      exact ⟨by simp only [own_del, if_pos hc105] <;> rfl, N0, rfl⟩
  · have S108 : ∀ t, Steps p.tables e below (T103.setTop (mkF m 15 #[.val (.ref a1), .val (.int q1)] [(.int (0 : Int32))])) t → Steps p.tables e below (T103.setTop (mkF m 7 #[.val (.ref a1), .val (.int q1)] [(.int ((2 : Int32) * f1)), (.int q1)])) t := by
      intro t kt
      show Steps p.tables e below (T103.setTop (mkF m 7 #[.val (.ref a1), .val (.int q1)] [(.int ((2 : Int32) * f1)), (.int q1)])) _
      refine XS.icmpYes X103.here hx rfl (pc0 := 7) (pc' := 14) rfl (hb hby d8_7) rfl (flt hc105).2.2.2 (by decide) (by decide) ?_
      show Steps p.tables e below (T103.setTop (mkF m 14 #[.val (.ref a1), .val (.int q1)] [])) _
      refine XS.iconst X103.here hx rfl (hb hby d8_14) ?_
      exact kt
    have C109 : ∀ t, Steps p.tables e below (T103.setTop (mkF m 15 #[.val (.ref a1), .val (.int q1)] [(.int (0 : Int32))])) t → Steps p.tables e below (s₁.setTop (mkF m 0 #[.val (.ref a1), .val (.int q1)] [])) t := (fun t k => (S102 t (st103 t (S104 t (S108 t k)))))
    obtain ⟨fs, hr, hrun, hended, hW, hsame⟩ := X103.leave (v := some (.int (0 : Int32))) (fun h => by rw [Bd.returns] at h; cases h)
    refine ⟨_, _, pre0 _ (C109 _ ?_), hrun, hended, _, _, rfl, ?_, ⟨_, rfl⟩, hW, hsame.mono (by decide) (by decide)⟩
    · exact retN X103 hx (t := .boolean) Bd.returns (by simp) (hb hby d8_15) hr
    · show Q_rm8 Z a1 q1 f1 h0 n0 _ T103.heap _
      rw [e103]
      exact ⟨by simp only [own_del, if_neg hc105] <;> rfl, N0, rfl⟩
theorem ef_rm9 (m : MethodId) (x0 : Addr) (x1 : Int32) : entryFrame m #[(.ref x0), (.int x1)] 2 = mkF m 0 #[.val (.ref x0), .val (.int x1)] [] := by first | (simp [entryFrame, mkF, argsToLocals, Value.category]; done) | rfl
def Q_rm9 (Z : State) (a1 : Addr) (q1 : Int32) (f1 : Int32) (h0 : Heap) (n0 : Nat) (v : Option Value) (h : Heap) (L : List Loc) : Prop := v = some (.int (own_rea f1 q1)) ∧ Fr n0 L ∧ h = h0
set_option maxRecDepth 65536 in
set_option maxHeartbeats 40000000 in
theorem rm9 (l : Launch) (Z : State) (a0 : Array Value) (hw : ∀ d ∈ tables_1, d.before a0 Z = true) (ws : List Jvm.Cond) (a1 : Addr) (q1 : Int32) (f1 : Int32) (h0 : Heap) (n0 : Nat) (Z0 : n0 ≤ h0.size) (F110 : Fld Z h0 a1 "com/example/totality/totality/core/ReadyRound" "faulty" "I" (.int f1)) :
    MetFree l (⟨"com/example/totality/totality/core/ReadyRound", "readies", "(I)Z"⟩ : MethodName) (head1 (Jvm.Cond.code (⟨"com/example/totality/totality/core/ReadyRound", "readies", "(I)Z"⟩ : MethodName) prog_51_method_3_code 2 (some .boolean) :: ws) ({ frames := 0, cells := 0, slots := 0, locals := 0 } : Room)) (fun a U => a = #[(.ref a1), (.int q1)] ∧ Z.Warmed39 U.vm ∧ U.heap = h0) (fun _ _ _ _ _ => True) (fun _ U o U' => ∃ v L, o = .returned v ∧ Q_rm9 Z a1 q1 f1 h0 n0 v U'.heap L ∧ FrameEnd U o U' L ({ frames := 0, cells := 0, slots := 0, locals := 0 } : Room).cells ({ frames := 0, cells := 0, slots := 0, locals := 0 } : Room).slots) := by
  refine MetFree.of_bodySF (plainFor_of_name pn_3) hisR ?_
  intro p e s m args below meth c s₁ Bd hml0 hP hK
  obtain ⟨rfl, hZ, hh⟩ := hP
  have hx := Bd.exec
  have hby := Bd.bytes
  have hml : c.maxLocals = 2 := hml0
  have hown : s.vm.findClass "com/example/totality/totality/core/ReadyRound" = some m.cls := findClass_of_methodNamed Bd.named
  have hnm := (name_of_methodNamed Bd.named Bd.method).1
  have X0 : Stand p l e ({ frames := 0, cells := 0, slots := 0, locals := 0 } : Room) s m #[(.ref a1), (.int q1)] below meth c s₁ [] 0 0 := Stand.of_body Bd
  have e0 : s₁.heap = h0 := by rw [← hh, Bd.state]; rfl
  have N0 := Fr.nil n0
  have pre0 : ∀ t, Steps p.tables e below (s₁.setTop (mkF m 0 #[.val (.ref a1), .val (.int q1)] [])) t → Steps p.tables e below (s₁.setTop (entryFrame m #[(.ref a1), (.int q1)] 2)) t := fun t k => castTop (ef_rm9 m a1 q1) k
  have S111 : ∀ t, Steps p.tables e below (s₁.setTop (mkF m 2 #[.val (.ref a1), .val (.int q1)] [(.ref a1), (.int q1)])) t → Steps p.tables e below (s₁.setTop (mkF m 0 #[.val (.ref a1), .val (.int q1)] [])) t := by
    intro t kt
    show Steps p.tables e below (s₁.setTop (mkF m 0 #[.val (.ref a1), .val (.int q1)] [])) _
    refine XS.iloadN X0.here hx rfl (hb hby d9_0) rfl ?_
    show Steps p.tables e below (s₁.setTop (mkF m 1 #[.val (.ref a1), .val (.int q1)] [(.int q1)])) _
    refine XS.aloadN X0.here hx rfl (hb hby d9_1) rfl rfl ?_
    exact kt
  obtain ⟨T112, X112, e112, st112⟩ := getF X0 hx hZ hown (host := "") (Or.inl (hw _ (List.mem_of_getElem? (i := 32) rfl))) Via.refl e0 F110 (g := (mkF m 2 #[.val (.ref a1), .val (.int q1)] [(.ref a1), (.int q1)])) rfl rfl (hb hby d9_2)
  by_cases hc113 : f1 < q1
  · have S114 : ∀ t, Steps p.tables e below (T112.setTop (mkF m 13 #[.val (.ref a1), .val (.int q1)] [(.int (1 : Int32))])) t → Steps p.tables e below (T112.setTop (mkF m 5 #[.val (.ref a1), .val (.int q1)] [(.int f1), (.int q1)])) t := by
      intro t kt
      show Steps p.tables e below (T112.setTop (mkF m 5 #[.val (.ref a1), .val (.int q1)] [(.int f1), (.int q1)])) _
      refine XS.icmpNo X112.here hx rfl (hb hby d9_5) rfl (tlt hc113).2.2.2 ?_
      show Steps p.tables e below (T112.setTop (mkF m 8 #[.val (.ref a1), .val (.int q1)] [])) _
      refine XS.iconst X112.here hx rfl (hb hby d9_8) ?_
      show Steps p.tables e below (T112.setTop (mkF m 9 #[.val (.ref a1), .val (.int q1)] [(.int (1 : Int32))])) _
      refine XS.goto X112.here hx rfl (pc0 := 9) (pc' := 13) rfl (hb hby d9_9) (by decide) (by decide) ?_
      exact kt
    have C115 : ∀ t, Steps p.tables e below (T112.setTop (mkF m 13 #[.val (.ref a1), .val (.int q1)] [(.int (1 : Int32))])) t → Steps p.tables e below (s₁.setTop (mkF m 0 #[.val (.ref a1), .val (.int q1)] [])) t := (fun t k => (S111 t (st112 t (S114 t k))))
    obtain ⟨fs, hr, hrun, hended, hW, hsame⟩ := X112.leave (v := some (.int (1 : Int32))) (fun h => by rw [Bd.returns] at h; cases h)
    refine ⟨_, _, pre0 _ (C115 _ ?_), hrun, hended, _, _, rfl, ?_, ⟨_, rfl⟩, hW, hsame.mono (by decide) (by decide)⟩
    · exact retN X112 hx (t := .boolean) Bd.returns (by simp) (hb hby d9_13) hr
    · show Q_rm9 Z a1 q1 f1 h0 n0 _ T112.heap _
      rw [e112]
      exact ⟨by simp only [own_rea, if_pos hc113] <;> rfl, N0, rfl⟩
  · have S116 : ∀ t, Steps p.tables e below (T112.setTop (mkF m 13 #[.val (.ref a1), .val (.int q1)] [(.int (0 : Int32))])) t → Steps p.tables e below (T112.setTop (mkF m 5 #[.val (.ref a1), .val (.int q1)] [(.int f1), (.int q1)])) t := by
      intro t kt
      show Steps p.tables e below (T112.setTop (mkF m 5 #[.val (.ref a1), .val (.int q1)] [(.int f1), (.int q1)])) _
      refine XS.icmpYes X112.here hx rfl (pc0 := 5) (pc' := 12) rfl (hb hby d9_5) rfl (flt hc113).2.2.2 (by decide) (by decide) ?_
      show Steps p.tables e below (T112.setTop (mkF m 12 #[.val (.ref a1), .val (.int q1)] [])) _
      refine XS.iconst X112.here hx rfl (hb hby d9_12) ?_
      exact kt
    have C117 : ∀ t, Steps p.tables e below (T112.setTop (mkF m 13 #[.val (.ref a1), .val (.int q1)] [(.int (0 : Int32))])) t → Steps p.tables e below (s₁.setTop (mkF m 0 #[.val (.ref a1), .val (.int q1)] [])) t := (fun t k => (S111 t (st112 t (S116 t k))))
    obtain ⟨fs, hr, hrun, hended, hW, hsame⟩ := X112.leave (v := some (.int (0 : Int32))) (fun h => by rw [Bd.returns] at h; cases h)
    refine ⟨_, _, pre0 _ (C117 _ ?_), hrun, hended, _, _, rfl, ?_, ⟨_, rfl⟩, hW, hsame.mono (by decide) (by decide)⟩
    · exact retN X112 hx (t := .boolean) Bd.returns (by simp) (hb hby d9_13) hr
    · show Q_rm9 Z a1 q1 f1 h0 n0 _ T112.heap _
      rw [e112]
      exact ⟨by simp only [own_rea, if_neg hc113] <;> rfl, N0, rfl⟩
theorem ef_rm0 (m : MethodId) (x0 : Int32) (x1 : Int32) (x2 : Int32) : entryFrame m #[(.int x0), (.int x1), (.int x2)] maxLocals = mkF m 0 #[.val (.int x0), .val (.int x1), .val (.int x2), .unset, .unset, .unset, .unset, .unset, .unset, .unset, .unset, .unset, .unset, .unset] [] := by first | (simp [entryFrame, mkF, argsToLocals, Value.category, maxLocals]; done) | rfl
def Q_rm0 (Z : State) (a1 : Int32) (b1 : Int32) (c1 : Int32) (h0 : Heap) (n0 : Nat) (v : Option Value) (h : Heap) (L : List Loc) : Prop := v = some (.int 1) ∧ Fr n0 L
set_option maxRecDepth 65536 in
set_option maxHeartbeats 40000000 in
theorem rm0 (l : Launch) (Z : State) (a0 : Array Value) (hw : ∀ d ∈ tables_1, d.before a0 Z = true) (ws : List Jvm.Cond) (a1 : Int32) (b1 : Int32) (c1 : Int32) (h0 : Heap) (n0 : Nat) (Z0 : n0 ≤ h0.size)  :
    MetFree l x (head1 (Jvm.Cond.code x code maxLocals ret :: ws) room_1) (fun a U => a = #[(.int a1), (.int b1), (.int c1)] ∧ Z.Warmed39 U.vm ∧ U.heap = h0) (fun _ _ _ _ _ => True) (fun _ U o U' => ∃ v L, o = .returned v ∧ Q_rm0 Z a1 b1 c1 h0 n0 v U'.heap L ∧ FrameEnd U o U' L room_1.cells room_1.slots) := by
  refine MetFree.of_bodySF (plainFor_of_name pn_4) hisR ?_
  intro p e s m args below meth c s₁ Bd hml0 hP hK
  obtain ⟨rfl, hZ, hh⟩ := hP
  have hx := Bd.exec
  have hby := Bd.bytes
  have hml : c.maxLocals = 14 := hml0
  have hown : s.vm.findClass "com/example/totality/totality/core/ReadyRoundDeliversPinLaw" = some m.cls := findClass_of_methodNamed Bd.named
  have hnm := (name_of_methodNamed Bd.named Bd.method).1
  have X0 : Stand p l e room_1 s m #[(.int a1), (.int b1), (.int c1)] below meth c s₁ [] 0 0 := Stand.of_body Bd
  have e0 : s₁.heap = h0 := by rw [← hh, Bd.state]; rfl
  have N0 := Fr.nil n0
  have pre0 : ∀ t, Steps p.tables e below (s₁.setTop (mkF m 0 #[.val (.int a1), .val (.int b1), .val (.int c1), .unset, .unset, .unset, .unset, .unset, .unset, .unset, .unset, .unset, .unset, .unset] [])) t → Steps p.tables e below (s₁.setTop (entryFrame m #[(.int a1), (.int b1), (.int c1)] maxLocals)) t := fun t k => castTop (ef_rm0 m a1 b1 c1) k
  have S119 : ∀ t, Steps p.tables e below (s₁.setTop (mkF m 9 #[.val (.int a1), .val (.int b1), .val (.int c1), .unset, .unset, .unset, .unset, .unset, .unset, .unset, .unset, .unset, .unset, .unset] [(.int ((1 : Int32) + ((a1 &&& (2147483647 : Int32)) % (100 : Int32))))])) t → Steps p.tables e below (s₁.setTop (mkF m 0 #[.val (.int a1), .val (.int b1), .val (.int c1), .unset, .unset, .unset, .unset, .unset, .unset, .unset, .unset, .unset, .unset, .unset] [])) t := by
    intro t kt
    show Steps p.tables e below (s₁.setTop (mkF m 0 #[.val (.int a1), .val (.int b1), .val (.int c1), .unset, .unset, .unset, .unset, .unset, .unset, .unset, .unset, .unset, .unset, .unset] [])) _
    refine XS.iconst X0.here hx rfl (hb hby at_0) ?_
    show Steps p.tables e below (s₁.setTop (mkF m 1 #[.val (.int a1), .val (.int b1), .val (.int c1), .unset, .unset, .unset, .unset, .unset, .unset, .unset, .unset, .unset, .unset, .unset] [(.int (1 : Int32))])) _
    refine XS.iloadN X0.here hx rfl (hb hby at_1) rfl ?_
    show Steps p.tables e below (s₁.setTop (mkF m 2 #[.val (.int a1), .val (.int b1), .val (.int c1), .unset, .unset, .unset, .unset, .unset, .unset, .unset, .unset, .unset, .unset, .unset] [(.int a1), (.int (1 : Int32))])) _
    refine X0.ldcInt hx hown (mvT hZ (hw _ (List.mem_of_getElem? (i := 0) rfl))) (g := (mkF m 2 #[.val (.int a1), .val (.int b1), .val (.int c1), .unset, .unset, .unset, .unset, .unset, .unset, .unset, .unset, .unset, .unset, .unset] [(.int a1), (.int (1 : Int32))])) rfl (hb hby at_2) _ ?_
    show Steps p.tables e below (s₁.setTop (mkF m 4 #[.val (.int a1), .val (.int b1), .val (.int c1), .unset, .unset, .unset, .unset, .unset, .unset, .unset, .unset, .unset, .unset, .unset] [(.int (2147483647 : Int32)), (.int a1), (.int (1 : Int32))])) _
    refine XS.iand X0.here hx rfl (hb hby at_4) rfl ?_
    show Steps p.tables e below (s₁.setTop (mkF m 5 #[.val (.int a1), .val (.int b1), .val (.int c1), .unset, .unset, .unset, .unset, .unset, .unset, .unset, .unset, .unset, .unset, .unset] [(.int (a1 &&& (2147483647 : Int32))), (.int (1 : Int32))])) _
    refine XS.bipush X0.here hx rfl (hb hby at_5) ?_
    show Steps p.tables e below (s₁.setTop (mkF m 7 #[.val (.int a1), .val (.int b1), .val (.int c1), .unset, .unset, .unset, .unset, .unset, .unset, .unset, .unset, .unset, .unset, .unset] [(.int (100 : Int32)), (.int (a1 &&& (2147483647 : Int32))), (.int (1 : Int32))])) _
    refine iremM X0 hx rfl (hb hby at_7) rfl (by decide) ?_
    show Steps p.tables e below (s₁.setTop (mkF m 8 #[.val (.int a1), .val (.int b1), .val (.int c1), .unset, .unset, .unset, .unset, .unset, .unset, .unset, .unset, .unset, .unset, .unset] [(.int ((a1 &&& (2147483647 : Int32)) % (100 : Int32))), (.int (1 : Int32))])) _
    refine XS.iadd X0.here hx rfl (hb hby at_8) rfl ?_
    exact kt
  obtain ⟨v118, hv118⟩ : ∃ z : Int32, z = ((1 : Int32) + ((a1 &&& (2147483647 : Int32)) % (100 : Int32))) := ⟨_, rfl⟩
  have S120 : ∀ t, Steps p.tables e below (s₁.setTop (mkF m 9 #[.val (.int a1), .val (.int b1), .val (.int c1), .unset, .unset, .unset, .unset, .unset, .unset, .unset, .unset, .unset, .unset, .unset] [(.int v118)])) t → Steps p.tables e below (s₁.setTop (mkF m 9 #[.val (.int a1), .val (.int b1), .val (.int c1), .unset, .unset, .unset, .unset, .unset, .unset, .unset, .unset, .unset, .unset, .unset] [(.int ((1 : Int32) + ((a1 &&& (2147483647 : Int32)) % (100 : Int32))))])) t := fun t k => by rw [hv118.symm]; exact k
  have hn : 1 ≤ v118.toInt ∧ v118.toInt ≤ 100 := own_n _ _ hv118
  have S122 : ∀ t, Steps p.tables e below (s₁.setTop (mkF m 22 #[.val (.int a1), .val (.int b1), .val (.int c1), .val (.int v118), .unset, .unset, .unset, .unset, .unset, .unset, .unset, .unset, .unset, .unset] [(.int ((b1 &&& (2147483647 : Int32)) % (((v118 - (1 : Int32)) / (3 : Int32)) + (1 : Int32))))])) t → Steps p.tables e below (s₁.setTop (mkF m 9 #[.val (.int a1), .val (.int b1), .val (.int c1), .unset, .unset, .unset, .unset, .unset, .unset, .unset, .unset, .unset, .unset, .unset] [(.int v118)])) t := by
    intro t kt
    show Steps p.tables e below (s₁.setTop (mkF m 9 #[.val (.int a1), .val (.int b1), .val (.int c1), .unset, .unset, .unset, .unset, .unset, .unset, .unset, .unset, .unset, .unset, .unset] [(.int v118)])) _
    refine XS.istoreN X0.here hx rfl (hb hby at_9) rfl (l' := #[.val (.int a1), .val (.int b1), .val (.int c1), .val (.int v118), .unset, .unset, .unset, .unset, .unset, .unset, .unset, .unset, .unset, .unset]) rfl ?_
    show Steps p.tables e below (s₁.setTop (mkF m 10 #[.val (.int a1), .val (.int b1), .val (.int c1), .val (.int v118), .unset, .unset, .unset, .unset, .unset, .unset, .unset, .unset, .unset, .unset] [])) _
    refine XS.iloadN X0.here hx rfl (hb hby at_10) rfl ?_
    show Steps p.tables e below (s₁.setTop (mkF m 11 #[.val (.int a1), .val (.int b1), .val (.int c1), .val (.int v118), .unset, .unset, .unset, .unset, .unset, .unset, .unset, .unset, .unset, .unset] [(.int b1)])) _
    refine X0.ldcInt hx hown (mvT hZ (hw _ (List.mem_of_getElem? (i := 0) rfl))) (g := (mkF m 11 #[.val (.int a1), .val (.int b1), .val (.int c1), .val (.int v118), .unset, .unset, .unset, .unset, .unset, .unset, .unset, .unset, .unset, .unset] [(.int b1)])) rfl (hb hby at_11) _ ?_
    show Steps p.tables e below (s₁.setTop (mkF m 13 #[.val (.int a1), .val (.int b1), .val (.int c1), .val (.int v118), .unset, .unset, .unset, .unset, .unset, .unset, .unset, .unset, .unset, .unset] [(.int (2147483647 : Int32)), (.int b1)])) _
    refine XS.iand X0.here hx rfl (hb hby at_13) rfl ?_
    show Steps p.tables e below (s₁.setTop (mkF m 14 #[.val (.int a1), .val (.int b1), .val (.int c1), .val (.int v118), .unset, .unset, .unset, .unset, .unset, .unset, .unset, .unset, .unset, .unset] [(.int (b1 &&& (2147483647 : Int32)))])) _
    refine XS.iloadN X0.here hx rfl (hb hby at_14) rfl ?_
    show Steps p.tables e below (s₁.setTop (mkF m 15 #[.val (.int a1), .val (.int b1), .val (.int c1), .val (.int v118), .unset, .unset, .unset, .unset, .unset, .unset, .unset, .unset, .unset, .unset] [(.int v118), (.int (b1 &&& (2147483647 : Int32)))])) _
    refine XS.iconst X0.here hx rfl (hb hby at_15) ?_
    show Steps p.tables e below (s₁.setTop (mkF m 16 #[.val (.int a1), .val (.int b1), .val (.int c1), .val (.int v118), .unset, .unset, .unset, .unset, .unset, .unset, .unset, .unset, .unset, .unset] [(.int (1 : Int32)), (.int v118), (.int (b1 &&& (2147483647 : Int32)))])) _
    refine XS.isub X0.here hx rfl (hb hby at_16) rfl ?_
    show Steps p.tables e below (s₁.setTop (mkF m 17 #[.val (.int a1), .val (.int b1), .val (.int c1), .val (.int v118), .unset, .unset, .unset, .unset, .unset, .unset, .unset, .unset, .unset, .unset] [(.int (v118 - (1 : Int32))), (.int (b1 &&& (2147483647 : Int32)))])) _
    refine XS.iconst X0.here hx rfl (hb hby at_17) ?_
    show Steps p.tables e below (s₁.setTop (mkF m 18 #[.val (.int a1), .val (.int b1), .val (.int c1), .val (.int v118), .unset, .unset, .unset, .unset, .unset, .unset, .unset, .unset, .unset, .unset] [(.int (3 : Int32)), (.int (v118 - (1 : Int32))), (.int (b1 &&& (2147483647 : Int32)))])) _
    refine XS.idiv X0.here hx rfl (hb hby at_18) rfl (by decide) ?_
    show Steps p.tables e below (s₁.setTop (mkF m 19 #[.val (.int a1), .val (.int b1), .val (.int c1), .val (.int v118), .unset, .unset, .unset, .unset, .unset, .unset, .unset, .unset, .unset, .unset] [(.int ((v118 - (1 : Int32)) / (3 : Int32))), (.int (b1 &&& (2147483647 : Int32)))])) _
    refine XS.iconst X0.here hx rfl (hb hby at_19) ?_
    show Steps p.tables e below (s₁.setTop (mkF m 20 #[.val (.int a1), .val (.int b1), .val (.int c1), .val (.int v118), .unset, .unset, .unset, .unset, .unset, .unset, .unset, .unset, .unset, .unset] [(.int (1 : Int32)), (.int ((v118 - (1 : Int32)) / (3 : Int32))), (.int (b1 &&& (2147483647 : Int32)))])) _
    refine XS.iadd X0.here hx rfl (hb hby at_20) rfl ?_
    show Steps p.tables e below (s₁.setTop (mkF m 21 #[.val (.int a1), .val (.int b1), .val (.int c1), .val (.int v118), .unset, .unset, .unset, .unset, .unset, .unset, .unset, .unset, .unset, .unset] [(.int (((v118 - (1 : Int32)) / (3 : Int32)) + (1 : Int32))), (.int (b1 &&& (2147483647 : Int32)))])) _
    refine iremM X0 hx rfl (hb hby at_21) rfl (own_div_ne v118 hn) ?_
    exact kt
  obtain ⟨v121, hv121⟩ : ∃ z : Int32, z = ((b1 &&& (2147483647 : Int32)) % (((v118 - (1 : Int32)) / (3 : Int32)) + (1 : Int32))) := ⟨_, rfl⟩
  have S123 : ∀ t, Steps p.tables e below (s₁.setTop (mkF m 22 #[.val (.int a1), .val (.int b1), .val (.int c1), .val (.int v118), .unset, .unset, .unset, .unset, .unset, .unset, .unset, .unset, .unset, .unset] [(.int v121)])) t → Steps p.tables e below (s₁.setTop (mkF m 22 #[.val (.int a1), .val (.int b1), .val (.int c1), .val (.int v118), .unset, .unset, .unset, .unset, .unset, .unset, .unset, .unset, .unset, .unset] [(.int ((b1 &&& (2147483647 : Int32)) % (((v118 - (1 : Int32)) / (3 : Int32)) + (1 : Int32))))])) t := fun t k => by rw [hv121.symm]; exact k
  have hok : own_ok v118 v121 := own_f _ _ _ hn hv121
  have S124 : ∀ t, Steps p.tables e below (s₁.setTop (mkF m 24 #[.val (.int a1), .val (.int b1), .val (.int c1), .val (.int v118), .val (.int v121), .unset, .unset, .unset, .unset, .unset, .unset, .unset, .unset, .unset] [])) t → Steps p.tables e below (s₁.setTop (mkF m 22 #[.val (.int a1), .val (.int b1), .val (.int c1), .val (.int v118), .unset, .unset, .unset, .unset, .unset, .unset, .unset, .unset, .unset, .unset] [(.int v121)])) t := by
    intro t kt
    show Steps p.tables e below (s₁.setTop (mkF m 22 #[.val (.int a1), .val (.int b1), .val (.int c1), .val (.int v118), .unset, .unset, .unset, .unset, .unset, .unset, .unset, .unset, .unset, .unset] [(.int v121)])) _
    refine XS.istore X0.here hx rfl (hb hby at_22) rfl (l' := #[.val (.int a1), .val (.int b1), .val (.int c1), .val (.int v118), .val (.int v121), .unset, .unset, .unset, .unset, .unset, .unset, .unset, .unset, .unset]) rfl ?_
    exact kt
  obtain ⟨T125, h125, X125, e125, E125, A125, D125, -, st125⟩ := newO X0 hx hZ hown (hw _ (List.mem_of_getElem? (i := 1) rfl)) (hw _ (List.mem_of_getElem? (i := 2) rfl)) (hw _ (List.mem_of_getElem? (i := 3) rfl)) e0 (g := (mkF m 24 #[.val (.int a1), .val (.int b1), .val (.int c1), .val (.int v118), .val (.int v121), .unset, .unset, .unset, .unset, .unset, .unset, .unset, .unset, .unset] [])) rfl (hb hby at_24) (by decide) (by decide)
  obtain ⟨b125, g125⟩ : ∃ z, z = h0.size := ⟨_, rfl⟩
  rw [← g125] at A125 D125 st125
  have g_b125 : n0 ≤ b125 := Nat.le_trans Z0 (Nat.le_of_eq g125.symm)
  have K126 := (Keep.refl h0 [])
  have sz_b125 : h0.size ≤ b125 := Nat.le_trans K126.1 (Nat.le_of_eq g125.symm)
  have z127 : n0 ≤ h125.size := Nat.le_trans Z0 E125.1
  have F128 : Fld Z h125 b125 "com/example/totality/totality/core/ReadyRound" "faulty" "I" (.int (0 : Int32)) := D125 (Or.inr (hw _ (List.mem_of_getElem? (i := 33) rfl))) (ty := .int) (by decide)
  have F129 : Fld Z h125 b125 "com/example/totality/totality/core/ReadyRound" "readies" "Lcom/example/totality/totality/core/Votes;" .null := D125 (Or.inr (hw _ (List.mem_of_getElem? (i := 57) rfl))) (ty := (.object "com/example/totality/totality/core/Votes")) (by decide)
  have S130 : ∀ t, Steps p.tables e below (T125.setTop (mkF m 28 #[.val (.int a1), .val (.int b1), .val (.int c1), .val (.int v118), .val (.int v121), .unset, .unset, .unset, .unset, .unset, .unset, .unset, .unset, .unset] [(.ref b125), (.ref b125)])) t → Steps p.tables e below (T125.setTop (mkF m 27 #[.val (.int a1), .val (.int b1), .val (.int c1), .val (.int v118), .val (.int v121), .unset, .unset, .unset, .unset, .unset, .unset, .unset, .unset, .unset] [(.ref b125)])) t := by
    intro t kt
    show Steps p.tables e below (T125.setTop (mkF m 27 #[.val (.int a1), .val (.int b1), .val (.int c1), .val (.int v118), .val (.int v121), .unset, .unset, .unset, .unset, .unset, .unset, .unset, .unset, .unset] [(.ref b125)])) _
    refine XS.dup X125.here hx rfl (hb hby at_27) rfl rfl ?_
    exact kt
  obtain ⟨T131, h131, X131, e131, E131, A131, D131, -, st131⟩ := newO X125 hx hZ hown (hw _ (List.mem_of_getElem? (i := 4) rfl)) (hw _ (List.mem_of_getElem? (i := 5) rfl)) (hw _ (List.mem_of_getElem? (i := 6) rfl)) e125 (g := (mkF m 28 #[.val (.int a1), .val (.int b1), .val (.int c1), .val (.int v118), .val (.int v121), .unset, .unset, .unset, .unset, .unset, .unset, .unset, .unset, .unset] [(.ref b125), (.ref b125)])) rfl (hb hby at_28) (by decide) (by decide)
  obtain ⟨b131, g131⟩ : ∃ z, z = h125.size := ⟨_, rfl⟩
  rw [← g131] at A131 D131 st131
  have g_b131 : n0 ≤ b131 := Nat.le_trans z127 (Nat.le_of_eq g131.symm)
  have K132 := (K126.ext E125)
  have sz_b131 : h0.size ≤ b131 := Nat.le_trans K132.1 (Nat.le_of_eq g131.symm)
  have ne_b125_b131 : b125 ≠ b131 := Nat.ne_of_lt (Nat.lt_of_lt_of_le A125.lt (Nat.le_of_eq g131.symm))
  have z133 : n0 ≤ h131.size := Nat.le_trans z127 E131.1
  have F134 : Fld Z h131 b131 "com/example/totality/totality/core/ClusterSize" "nodes" "I" (.int (0 : Int32)) := D131 (Or.inr (hw _ (List.mem_of_getElem? (i := 20) rfl))) (ty := .int) (by decide)
  have F135 : Fld Z h131 b131 "com/example/totality/totality/core/ClusterSize" "faulty" "I" (.int (0 : Int32)) := D131 (Or.inr (hw _ (List.mem_of_getElem? (i := 22) rfl))) (ty := .int) (by decide)
  have S136 : ∀ t, Steps p.tables e below (T131.setTop (mkF m 35 #[.val (.int a1), .val (.int b1), .val (.int c1), .val (.int v118), .val (.int v121), .unset, .unset, .unset, .unset, .unset, .unset, .unset, .unset, .unset] [(.int v121), (.int v118), (.ref b131), (.ref b131), (.ref b125), (.ref b125)])) t → Steps p.tables e below (T131.setTop (mkF m 31 #[.val (.int a1), .val (.int b1), .val (.int c1), .val (.int v118), .val (.int v121), .unset, .unset, .unset, .unset, .unset, .unset, .unset, .unset, .unset] [(.ref b131), (.ref b125), (.ref b125)])) t := by
    intro t kt
    show Steps p.tables e below (T131.setTop (mkF m 31 #[.val (.int a1), .val (.int b1), .val (.int c1), .val (.int v118), .val (.int v121), .unset, .unset, .unset, .unset, .unset, .unset, .unset, .unset, .unset] [(.ref b131), (.ref b125), (.ref b125)])) _
    refine XS.dup X131.here hx rfl (hb hby at_31) rfl rfl ?_
    show Steps p.tables e below (T131.setTop (mkF m 32 #[.val (.int a1), .val (.int b1), .val (.int c1), .val (.int v118), .val (.int v121), .unset, .unset, .unset, .unset, .unset, .unset, .unset, .unset, .unset] [(.ref b131), (.ref b131), (.ref b125), (.ref b125)])) _
    refine XS.iloadN X131.here hx rfl (hb hby at_32) rfl ?_
    show Steps p.tables e below (T131.setTop (mkF m 33 #[.val (.int a1), .val (.int b1), .val (.int c1), .val (.int v118), .val (.int v121), .unset, .unset, .unset, .unset, .unset, .unset, .unset, .unset, .unset] [(.int v118), (.ref b131), (.ref b131), (.ref b125), (.ref b125)])) _
    refine XS.iload X131.here hx rfl (hb hby at_33) rfl ?_
    exact kt
  obtain ⟨_, _, ⟨T137, L137, k137, n137⟩, -, X137, ⟨Lc137, hQ137, l137, y137, z137⟩, st137⟩ := X131.specialBack hx (y := (⟨"com/example/totality/totality/core/ClusterSize", "<init>", "(II)V"⟩ : MethodName)) rfl hown (mvT hZ (hw _ (List.mem_of_getElem? (i := 7) rfl))) (mvT hZ (hw _ (List.mem_of_getElem? (i := 8) rfl))) (mvT hZ (hw _ (List.mem_of_getElem? (i := 9) rfl))) (by decide) (backOf (W := 3) (rm1 l Z a0 hw [] b131 v118 v121 (.int (0 : Int32)) (.int (0 : Int32)) h131 n0 z133 A131 F134 F135 g_b131 hok) hZ (hw _ (List.mem_of_getElem? (i := 9) rfl)) (hw _ (List.mem_of_getElem? (i := 6) rfl)) (by decide) (by decide)) (g := (mkF m 35 #[.val (.int a1), .val (.int b1), .val (.int c1), .val (.int v118), .val (.int v121), .unset, .unset, .unset, .unset, .unset, .unset, .unset, .unset, .unset] [(.int v121), (.int v118), (.ref b131), (.ref b131), (.ref b125), (.ref b125)])) rfl (by rw [hml]; rfl) (Steps.refl _) (a := b131) (argsL := [(.int v118), (.int v121)]) (rest := [(.ref b131), (.ref b125), (.ref b125)]) (lenOf pd_3 rfl) rfl (by show 2 * 0 + _ ≤ _; exact Nat.le_of_eq rfl) (hb hby at_35) (fun _ _ => ⟨rfl, e131, (by decide : 2 + 0 ≤ _), (by decide : 4 + 0 ≤ _)⟩)
  dsimp only [Pt.U, Pt.locs, Pt.cells, Pt.slots] at X137 l137 y137 z137 st137 hQ137
  subst l137 y137 z137
  obtain ⟨h137, e137⟩ : ∃ z, T137.heap = z := ⟨_, rfl⟩
  rw [e137] at hQ137
  obtain ⟨rfl, N137q, K137q, F138, F139⟩ := hQ137
  have z140 : n0 ≤ h137.size := Nat.le_trans z133 K137q.1
  have N137 := Fr.app N0 N137q
  have f141 := ((A125.ext E131).keep K137q)
  have f142 := ((F128.ext E131).keep K137q (ninS ne_b125_b131 nin0))
  have f143 := ((F129.ext E131).keep K137q (ninS ne_b125_b131 nin0))
  have f144 := (A131.keep K137q)
  obtain ⟨_, _, ⟨T145, L145, k145, n145⟩, -, X145, ⟨Lc145, hQ145, l145, y145, z145⟩, st145⟩ := X137.specialBack hx (y := (⟨"com/example/totality/totality/core/ReadyRound", "<init>", "(Lcom/example/totality/totality/core/ClusterSize;)V"⟩ : MethodName)) rfl hown (mvT hZ (hw _ (List.mem_of_getElem? (i := 23) rfl))) (mvT hZ (hw _ (List.mem_of_getElem? (i := 24) rfl))) (mvT hZ (hw _ (List.mem_of_getElem? (i := 25) rfl))) (by decide) (backOf (W := 1) (rm4 l Z a0 hw [] b125 b131 v118 v121 h137 n0 z140 f141 f142 f143 f144 F138 F139 g_b125 ne_b125_b131 hok) hZ (hw _ (List.mem_of_getElem? (i := 25) rfl)) (hw _ (List.mem_of_getElem? (i := 3) rfl)) (by decide) (by decide)) (g := (mkF m 38 #[.val (.int a1), .val (.int b1), .val (.int c1), .val (.int v118), .val (.int v121), .unset, .unset, .unset, .unset, .unset, .unset, .unset, .unset, .unset] [(.ref b131), (.ref b125), (.ref b125)])) rfl (by rw [hml]; rfl) (Steps.refl _) (a := b125) (argsL := [(.ref b131)]) (rest := [(.ref b125)]) (lenOf pd_4 rfl) rfl (by show 2 * 0 + _ ≤ _; exact Nat.le_of_eq rfl) (hb hby at_38) (fun _ _ => ⟨rfl, e137, (by decide : 2 + 4 ≤ _), (by decide : 4 + 106 ≤ _)⟩)
  dsimp only [Pt.U, Pt.locs, Pt.cells, Pt.slots] at X145 l145 y145 z145 st145 hQ145
  subst l145 y145 z145
  obtain ⟨h145, e145⟩ : ∃ z, T145.heap = z := ⟨_, rfl⟩
  rw [e145] at hQ145
  obtain ⟨rfl, N145q, K145q, F146⟩ := hQ145
  have z147 : n0 ≤ h145.size := Nat.le_trans z140 K145q.1
  have N145 := Fr.app N137 N145q
  have S148 : ∀ t, Steps p.tables e below (T145.setTop (mkF m 46 #[.val (.int a1), .val (.int b1), .val (.int c1), .val (.int v118), .val (.int v121), .val (.ref b125), .unset, .unset, .unset, .unset, .unset, .unset, .unset, .unset] [(.int c1), (.ref b125)])) t → Steps p.tables e below (T145.setTop (mkF m 41 #[.val (.int a1), .val (.int b1), .val (.int c1), .val (.int v118), .val (.int v121), .unset, .unset, .unset, .unset, .unset, .unset, .unset, .unset, .unset] [(.ref b125)])) t := by
    intro t kt
    show Steps p.tables e below (T145.setTop (mkF m 41 #[.val (.int a1), .val (.int b1), .val (.int c1), .val (.int v118), .val (.int v121), .unset, .unset, .unset, .unset, .unset, .unset, .unset, .unset, .unset] [(.ref b125)])) _
    refine XS.astore X145.here hx rfl (hb hby at_41) rfl rfl (l' := #[.val (.int a1), .val (.int b1), .val (.int c1), .val (.int v118), .val (.int v121), .val (.ref b125), .unset, .unset, .unset, .unset, .unset, .unset, .unset, .unset]) rfl ?_
    show Steps p.tables e below (T145.setTop (mkF m 43 #[.val (.int a1), .val (.int b1), .val (.int c1), .val (.int v118), .val (.int v121), .val (.ref b125), .unset, .unset, .unset, .unset, .unset, .unset, .unset, .unset] [])) _
    refine XS.aload X145.here hx rfl (hb hby at_43) rfl rfl ?_
    show Steps p.tables e below (T145.setTop (mkF m 45 #[.val (.int a1), .val (.int b1), .val (.int c1), .val (.int v118), .val (.int v121), .val (.ref b125), .unset, .unset, .unset, .unset, .unset, .unset, .unset, .unset] [(.ref b125)])) _
    refine XS.iloadN X145.here hx rfl (hb hby at_45) rfl ?_
    exact kt
  have f150 := (f141.keep K145q)
  obtain ⟨cq149, kq149, q149a, q149b, q149c⟩ := isOf hZ e145 f150
  obtain ⟨_, _, ⟨T149, L149, k149, n149⟩, -, X149, ⟨Lc149, hQ149, l149, y149, z149⟩, st149⟩ := X145.virtualBack hx (y := (⟨"com/example/totality/totality/core/ReadyRound", "delivers", "(I)Z"⟩ : MethodName)) (z := (⟨"com/example/totality/totality/core/ReadyRound", "delivers", "(I)Z"⟩ : MethodName)) hown (mvT hZ (hw _ (List.mem_of_getElem? (i := 58) rfl))) (mvT hZ (hw _ (List.mem_of_getElem? (i := 59) rfl))) (notFace_of_selects (args := #[]) (mvT hZ (hw _ (List.mem_of_getElem? (i := 61) rfl)))) (mvT hZ (hw _ (List.mem_of_getElem? (i := 61) rfl))) (mvT hZ (hw _ (List.mem_of_getElem? (i := 60) rfl))) (by decide) (backOf (W := 0) (rm8 l Z a0 hw [] b125 c1 v121 h145 n0 z147 F146) hZ (hw _ (List.mem_of_getElem? (i := 62) rfl)) (hw _ (List.mem_of_getElem? (i := 3) rfl)) (by decide) (by decide)) q149a q149c (g := (mkF m 46 #[.val (.int a1), .val (.int b1), .val (.int c1), .val (.int v118), .val (.int v121), .val (.ref b125), .unset, .unset, .unset, .unset, .unset, .unset, .unset, .unset] [(.int c1), (.ref b125)])) rfl (by rw [hml]; rfl) (Steps.refl _) (argsL := [(.int c1)]) (rest := []) (lenOf pd_5 rfl) rfl (by show 2 * 0 + _ ≤ _; exact Nat.le_of_eq rfl) (hb hby at_46) (fun _ _ => ⟨rfl, e145, (by decide : 6 + 0 ≤ _), (by decide : 110 + 0 ≤ _)⟩)
  dsimp only [Pt.U, Pt.locs, Pt.cells, Pt.slots] at X149 l149 y149 z149 st149 hQ149
  subst l149 y149 z149
  obtain ⟨rfl, N149q, e149⟩ := hQ149
  have N149 := Fr.app N145 N149q
  have S151 : ∀ t, Steps p.tables e below (T149.setTop (mkF m 69 #[.val (.int a1), .val (.int b1), .val (.int c1), .val (.int v118), .val (.int v121), .val (.ref b125), .val (.int (own_del v121 c1)), .val (.long (((2 : Int64) * (v121.toInt64)) + (1 : Int64))), .second, .unset, .unset, .unset, .unset, .unset] [(.int (lcmpW (c1.toInt64) (((2 : Int64) * (v121.toInt64)) + (1 : Int64)))), (.int (own_del v121 c1))])) t → Steps p.tables e below (T149.setTop (mkF m 49 #[.val (.int a1), .val (.int b1), .val (.int c1), .val (.int v118), .val (.int v121), .val (.ref b125), .unset, .unset, .unset, .unset, .unset, .unset, .unset, .unset] [(.int (own_del v121 c1))])) t := by
    intro t kt
    show Steps p.tables e below (T149.setTop (mkF m 49 #[.val (.int a1), .val (.int b1), .val (.int c1), .val (.int v118), .val (.int v121), .val (.ref b125), .unset, .unset, .unset, .unset, .unset, .unset, .unset, .unset] [(.int (own_del v121 c1))])) _
    refine XS.istore X149.here hx rfl (hb hby at_49) rfl (l' := #[.val (.int a1), .val (.int b1), .val (.int c1), .val (.int v118), .val (.int v121), .val (.ref b125), .val (.int (own_del v121 c1)), .unset, .unset, .unset, .unset, .unset, .unset, .unset]) rfl ?_
    show Steps p.tables e below (T149.setTop (mkF m 51 #[.val (.int a1), .val (.int b1), .val (.int c1), .val (.int v118), .val (.int v121), .val (.ref b125), .val (.int (own_del v121 c1)), .unset, .unset, .unset, .unset, .unset, .unset, .unset] [])) _
    refine X149.ldc2Long hx hown (mvT hZ (hw _ (List.mem_of_getElem? (i := 63) rfl))) (g := (mkF m 51 #[.val (.int a1), .val (.int b1), .val (.int c1), .val (.int v118), .val (.int v121), .val (.ref b125), .val (.int (own_del v121 c1)), .unset, .unset, .unset, .unset, .unset, .unset, .unset] [])) rfl (hb hby at_51) _ ?_
    show Steps p.tables e below (T149.setTop (mkF m 54 #[.val (.int a1), .val (.int b1), .val (.int c1), .val (.int v118), .val (.int v121), .val (.ref b125), .val (.int (own_del v121 c1)), .unset, .unset, .unset, .unset, .unset, .unset, .unset] [(.long (2 : Int64))])) _
    refine XS.iload X149.here hx rfl (hb hby at_54) rfl ?_
    show Steps p.tables e below (T149.setTop (mkF m 56 #[.val (.int a1), .val (.int b1), .val (.int c1), .val (.int v118), .val (.int v121), .val (.ref b125), .val (.int (own_del v121 c1)), .unset, .unset, .unset, .unset, .unset, .unset, .unset] [(.int v121), (.long (2 : Int64))])) _
    refine XS.i2l X149.here hx rfl (hb hby at_56) rfl ?_
    show Steps p.tables e below (T149.setTop (mkF m 57 #[.val (.int a1), .val (.int b1), .val (.int c1), .val (.int v118), .val (.int v121), .val (.ref b125), .val (.int (own_del v121 c1)), .unset, .unset, .unset, .unset, .unset, .unset, .unset] [(.long (v121.toInt64)), (.long (2 : Int64))])) _
    refine XS.lmul X149.here hx rfl (hb hby at_57) rfl ?_
    show Steps p.tables e below (T149.setTop (mkF m 58 #[.val (.int a1), .val (.int b1), .val (.int c1), .val (.int v118), .val (.int v121), .val (.ref b125), .val (.int (own_del v121 c1)), .unset, .unset, .unset, .unset, .unset, .unset, .unset] [(.long ((2 : Int64) * (v121.toInt64)))])) _
    refine XS.lconst X149.here hx rfl (hb hby at_58) ?_
    show Steps p.tables e below (T149.setTop (mkF m 59 #[.val (.int a1), .val (.int b1), .val (.int c1), .val (.int v118), .val (.int v121), .val (.ref b125), .val (.int (own_del v121 c1)), .unset, .unset, .unset, .unset, .unset, .unset, .unset] [(.long (1 : Int64)), (.long ((2 : Int64) * (v121.toInt64)))])) _
    refine XS.ladd X149.here hx rfl (hb hby at_59) rfl ?_
    show Steps p.tables e below (T149.setTop (mkF m 60 #[.val (.int a1), .val (.int b1), .val (.int c1), .val (.int v118), .val (.int v121), .val (.ref b125), .val (.int (own_del v121 c1)), .unset, .unset, .unset, .unset, .unset, .unset, .unset] [(.long (((2 : Int64) * (v121.toInt64)) + (1 : Int64)))])) _
    refine XS.lstore X149.here hx rfl (hb hby at_60) rfl (l' := #[.val (.int a1), .val (.int b1), .val (.int c1), .val (.int v118), .val (.int v121), .val (.ref b125), .val (.int (own_del v121 c1)), .val (.long (((2 : Int64) * (v121.toInt64)) + (1 : Int64))), .second, .unset, .unset, .unset, .unset, .unset]) rfl ?_
    show Steps p.tables e below (T149.setTop (mkF m 62 #[.val (.int a1), .val (.int b1), .val (.int c1), .val (.int v118), .val (.int v121), .val (.ref b125), .val (.int (own_del v121 c1)), .val (.long (((2 : Int64) * (v121.toInt64)) + (1 : Int64))), .second, .unset, .unset, .unset, .unset, .unset] [])) _
    refine XS.iload X149.here hx rfl (hb hby at_62) rfl ?_
    show Steps p.tables e below (T149.setTop (mkF m 64 #[.val (.int a1), .val (.int b1), .val (.int c1), .val (.int v118), .val (.int v121), .val (.ref b125), .val (.int (own_del v121 c1)), .val (.long (((2 : Int64) * (v121.toInt64)) + (1 : Int64))), .second, .unset, .unset, .unset, .unset, .unset] [(.int (own_del v121 c1))])) _
    refine XS.iloadN X149.here hx rfl (hb hby at_64) rfl ?_
    show Steps p.tables e below (T149.setTop (mkF m 65 #[.val (.int a1), .val (.int b1), .val (.int c1), .val (.int v118), .val (.int v121), .val (.ref b125), .val (.int (own_del v121 c1)), .val (.long (((2 : Int64) * (v121.toInt64)) + (1 : Int64))), .second, .unset, .unset, .unset, .unset, .unset] [(.int c1), (.int (own_del v121 c1))])) _
    refine XS.i2l X149.here hx rfl (hb hby at_65) rfl ?_
    show Steps p.tables e below (T149.setTop (mkF m 66 #[.val (.int a1), .val (.int b1), .val (.int c1), .val (.int v118), .val (.int v121), .val (.ref b125), .val (.int (own_del v121 c1)), .val (.long (((2 : Int64) * (v121.toInt64)) + (1 : Int64))), .second, .unset, .unset, .unset, .unset, .unset] [(.long (c1.toInt64)), (.int (own_del v121 c1))])) _
    refine XS.lload X149.here hx rfl (hb hby at_66) rfl ?_
    show Steps p.tables e below (T149.setTop (mkF m 68 #[.val (.int a1), .val (.int b1), .val (.int c1), .val (.int v118), .val (.int v121), .val (.ref b125), .val (.int (own_del v121 c1)), .val (.long (((2 : Int64) * (v121.toInt64)) + (1 : Int64))), .second, .unset, .unset, .unset, .unset, .unset] [(.long (((2 : Int64) * (v121.toInt64)) + (1 : Int64))), (.long (c1.toInt64)), (.int (own_del v121 c1))])) _
    refine XS.lcmp X149.here hx rfl (hb hby at_68) rfl ?_
    exact kt
  obtain ⟨v154, hv154⟩ : ∃ z : Int32, z = (if (c1.toInt64) < (((2 : Int64) * (v121.toInt64)) + (1 : Int64)) then (0 : Int32) else (1 : Int32)) := ⟨_, rfl⟩
  have S153 : ∀ t, Steps p.tables e below (T149.setTop (mkF m 77 #[.val (.int a1), .val (.int b1), .val (.int c1), .val (.int v118), .val (.int v121), .val (.ref b125), .val (.int (own_del v121 c1)), .val (.long (((2 : Int64) * (v121.toInt64)) + (1 : Int64))), .second, .unset, .unset, .unset, .unset, .unset] [(.int v154), (.int (own_del v121 c1))])) t → Steps p.tables e below (T149.setTop (mkF m 69 #[.val (.int a1), .val (.int b1), .val (.int c1), .val (.int v118), .val (.int v121), .val (.ref b125), .val (.int (own_del v121 c1)), .val (.long (((2 : Int64) * (v121.toInt64)) + (1 : Int64))), .second, .unset, .unset, .unset, .unset, .unset] [(.int (lcmpW (c1.toInt64) (((2 : Int64) * (v121.toInt64)) + (1 : Int64)))), (.int (own_del v121 c1))])) t := by
    intro t kt
    subst hv154
    by_cases hc152 : (c1.toInt64) < (((2 : Int64) * (v121.toInt64)) + (1 : Int64))
    · simp only [if_pos hc152] at kt
      show Steps p.tables e below (T149.setTop (mkF m 69 #[.val (.int a1), .val (.int b1), .val (.int c1), .val (.int v118), .val (.int v121), .val (.ref b125), .val (.int (own_del v121 c1)), .val (.long (((2 : Int64) * (v121.toInt64)) + (1 : Int64))), .second, .unset, .unset, .unset, .unset, .unset] [(.int (lcmpW (c1.toInt64) (((2 : Int64) * (v121.toInt64)) + (1 : Int64)))), (.int (own_del v121 c1))])) _
      refine XS.ifYes X149.here hx rfl (pc0 := 69) (pc' := 76) rfl (hb hby at_69) rfl ((if0 _ _).trans (tlt ((lw_lt (c1.toInt64) (((2 : Int64) * (v121.toInt64)) + (1 : Int64))).mpr hc152)).1) (by decide) (by decide) ?_
      show Steps p.tables e below (T149.setTop (mkF m 76 #[.val (.int a1), .val (.int b1), .val (.int c1), .val (.int v118), .val (.int v121), .val (.ref b125), .val (.int (own_del v121 c1)), .val (.long (((2 : Int64) * (v121.toInt64)) + (1 : Int64))), .second, .unset, .unset, .unset, .unset, .unset] [(.int (own_del v121 c1))])) _
      refine XS.iconst X149.here hx rfl (hb hby at_76) ?_
      exact kt
    · simp only [if_neg hc152] at kt
      show Steps p.tables e below (T149.setTop (mkF m 69 #[.val (.int a1), .val (.int b1), .val (.int c1), .val (.int v118), .val (.int v121), .val (.ref b125), .val (.int (own_del v121 c1)), .val (.long (((2 : Int64) * (v121.toInt64)) + (1 : Int64))), .second, .unset, .unset, .unset, .unset, .unset] [(.int (lcmpW (c1.toInt64) (((2 : Int64) * (v121.toInt64)) + (1 : Int64)))), (.int (own_del v121 c1))])) _
      refine XS.ifNo X149.here hx rfl (hb hby at_69) rfl ((if0 _ _).trans (flt (fun q => hc152 ((lw_lt (c1.toInt64) (((2 : Int64) * (v121.toInt64)) + (1 : Int64))).mp q))).1) ?_
      show Steps p.tables e below (T149.setTop (mkF m 72 #[.val (.int a1), .val (.int b1), .val (.int c1), .val (.int v118), .val (.int v121), .val (.ref b125), .val (.int (own_del v121 c1)), .val (.long (((2 : Int64) * (v121.toInt64)) + (1 : Int64))), .second, .unset, .unset, .unset, .unset, .unset] [(.int (own_del v121 c1))])) _
      refine XS.iconst X149.here hx rfl (hb hby at_72) ?_
      show Steps p.tables e below (T149.setTop (mkF m 73 #[.val (.int a1), .val (.int b1), .val (.int c1), .val (.int v118), .val (.int v121), .val (.ref b125), .val (.int (own_del v121 c1)), .val (.long (((2 : Int64) * (v121.toInt64)) + (1 : Int64))), .second, .unset, .unset, .unset, .unset, .unset] [(.int (1 : Int32)), (.int (own_del v121 c1))])) _
      refine XS.goto X149.here hx rfl (pc0 := 73) (pc' := 77) rfl (hb hby at_73) (by decide) (by decide) ?_
      exact kt
  have S155 : ∀ t, Steps p.tables e below (T149.setTop (mkF m 89 #[.val (.int a1), .val (.int b1), .val (.int c1), .val (.int v118), .val (.int v121), .val (.ref b125), .val (.int (own_del v121 c1)), .val (.long (((2 : Int64) * (v121.toInt64)) + (1 : Int64))), .second, .val (.int (1 : Int32)), .unset, .unset, .unset, .unset] [(.int (own_del v121 c1))])) t → Steps p.tables e below (T149.setTop (mkF m 77 #[.val (.int a1), .val (.int b1), .val (.int c1), .val (.int v118), .val (.int v121), .val (.ref b125), .val (.int (own_del v121 c1)), .val (.long (((2 : Int64) * (v121.toInt64)) + (1 : Int64))), .second, .unset, .unset, .unset, .unset, .unset] [(.int v154), (.int (own_del v121 c1))])) t := by
    intro t kt
    show Steps p.tables e below (T149.setTop (mkF m 77 #[.val (.int a1), .val (.int b1), .val (.int c1), .val (.int v118), .val (.int v121), .val (.ref b125), .val (.int (own_del v121 c1)), .val (.long (((2 : Int64) * (v121.toInt64)) + (1 : Int64))), .second, .unset, .unset, .unset, .unset, .unset] [(.int v154), (.int (own_del v121 c1))])) _
    refine XS.icmpNo X149.here hx rfl (hb hby at_77) rfl (teq (own_exact hok hv154)).2 ?_
    show Steps p.tables e below (T149.setTop (mkF m 80 #[.val (.int a1), .val (.int b1), .val (.int c1), .val (.int v118), .val (.int v121), .val (.ref b125), .val (.int (own_del v121 c1)), .val (.long (((2 : Int64) * (v121.toInt64)) + (1 : Int64))), .second, .unset, .unset, .unset, .unset, .unset] [])) _
    refine XS.iconst X149.here hx rfl (hb hby at_80) ?_
    show Steps p.tables e below (T149.setTop (mkF m 81 #[.val (.int a1), .val (.int b1), .val (.int c1), .val (.int v118), .val (.int v121), .val (.ref b125), .val (.int (own_del v121 c1)), .val (.long (((2 : Int64) * (v121.toInt64)) + (1 : Int64))), .second, .unset, .unset, .unset, .unset, .unset] [(.int (1 : Int32))])) _
    refine XS.goto X149.here hx rfl (pc0 := 81) (pc' := 85) rfl (hb hby at_81) (by decide) (by decide) ?_
    show Steps p.tables e below (T149.setTop (mkF m 85 #[.val (.int a1), .val (.int b1), .val (.int c1), .val (.int v118), .val (.int v121), .val (.ref b125), .val (.int (own_del v121 c1)), .val (.long (((2 : Int64) * (v121.toInt64)) + (1 : Int64))), .second, .unset, .unset, .unset, .unset, .unset] [(.int (1 : Int32))])) _
    refine XS.istore X149.here hx rfl (hb hby at_85) rfl (l' := #[.val (.int a1), .val (.int b1), .val (.int c1), .val (.int v118), .val (.int v121), .val (.ref b125), .val (.int (own_del v121 c1)), .val (.long (((2 : Int64) * (v121.toInt64)) + (1 : Int64))), .second, .val (.int (1 : Int32)), .unset, .unset, .unset, .unset]) rfl ?_
    show Steps p.tables e below (T149.setTop (mkF m 87 #[.val (.int a1), .val (.int b1), .val (.int c1), .val (.int v118), .val (.int v121), .val (.ref b125), .val (.int (own_del v121 c1)), .val (.long (((2 : Int64) * (v121.toInt64)) + (1 : Int64))), .second, .val (.int (1 : Int32)), .unset, .unset, .unset, .unset] [])) _
    refine XS.iload X149.here hx rfl (hb hby at_87) rfl ?_
    exact kt
  by_cases hc156 : (own_del v121 c1) = (0 : Int32)
  · have S157 : ∀ t, Steps p.tables e below (T149.setTop (mkF m 114 #[.val (.int a1), .val (.int b1), .val (.int c1), .val (.int v118), .val (.int v121), .val (.ref b125), .val (.int (own_del v121 c1)), .val (.long (((2 : Int64) * (v121.toInt64)) + (1 : Int64))), .second, .val (.int (1 : Int32)), .val (.int (1 : Int32)), .unset, .unset, .unset] [(.int ((2 : Int32) * v121)), (.ref b125)])) t → Steps p.tables e below (T149.setTop (mkF m 89 #[.val (.int a1), .val (.int b1), .val (.int c1), .val (.int v118), .val (.int v121), .val (.ref b125), .val (.int (own_del v121 c1)), .val (.long (((2 : Int64) * (v121.toInt64)) + (1 : Int64))), .second, .val (.int (1 : Int32)), .unset, .unset, .unset, .unset] [(.int (own_del v121 c1))])) t := by
      intro t kt
      show Steps p.tables e below (T149.setTop (mkF m 89 #[.val (.int a1), .val (.int b1), .val (.int c1), .val (.int v118), .val (.int v121), .val (.ref b125), .val (.int (own_del v121 c1)), .val (.long (((2 : Int64) * (v121.toInt64)) + (1 : Int64))), .second, .val (.int (1 : Int32)), .unset, .unset, .unset, .unset] [(.int (own_del v121 c1))])) _
      refine XS.ifYes X149.here hx rfl (pc0 := 89) (pc' := 101) rfl (hb hby at_89) rfl ((if0 _ _).trans (teq hc156).1) (by decide) (by decide) ?_
      show Steps p.tables e below (T149.setTop (mkF m 101 #[.val (.int a1), .val (.int b1), .val (.int c1), .val (.int v118), .val (.int v121), .val (.ref b125), .val (.int (own_del v121 c1)), .val (.long (((2 : Int64) * (v121.toInt64)) + (1 : Int64))), .second, .val (.int (1 : Int32)), .unset, .unset, .unset, .unset] [])) _
      refine XS.iconst X149.here hx rfl (hb hby at_101) ?_
      show Steps p.tables e below (T149.setTop (mkF m 102 #[.val (.int a1), .val (.int b1), .val (.int c1), .val (.int v118), .val (.int v121), .val (.ref b125), .val (.int (own_del v121 c1)), .val (.long (((2 : Int64) * (v121.toInt64)) + (1 : Int64))), .second, .val (.int (1 : Int32)), .unset, .unset, .unset, .unset] [(.int (1 : Int32))])) _
      refine XS.goto X149.here hx rfl (pc0 := 102) (pc' := 106) rfl (hb hby at_102) (by decide) (by decide) ?_
      show Steps p.tables e below (T149.setTop (mkF m 106 #[.val (.int a1), .val (.int b1), .val (.int c1), .val (.int v118), .val (.int v121), .val (.ref b125), .val (.int (own_del v121 c1)), .val (.long (((2 : Int64) * (v121.toInt64)) + (1 : Int64))), .second, .val (.int (1 : Int32)), .unset, .unset, .unset, .unset] [(.int (1 : Int32))])) _
      refine XS.istore X149.here hx rfl (hb hby at_106) rfl (l' := #[.val (.int a1), .val (.int b1), .val (.int c1), .val (.int v118), .val (.int v121), .val (.ref b125), .val (.int (own_del v121 c1)), .val (.long (((2 : Int64) * (v121.toInt64)) + (1 : Int64))), .second, .val (.int (1 : Int32)), .val (.int (1 : Int32)), .unset, .unset, .unset]) rfl ?_
      show Steps p.tables e below (T149.setTop (mkF m 108 #[.val (.int a1), .val (.int b1), .val (.int c1), .val (.int v118), .val (.int v121), .val (.ref b125), .val (.int (own_del v121 c1)), .val (.long (((2 : Int64) * (v121.toInt64)) + (1 : Int64))), .second, .val (.int (1 : Int32)), .val (.int (1 : Int32)), .unset, .unset, .unset] [])) _
      refine XS.aload X149.here hx rfl (hb hby at_108) rfl rfl ?_
      show Steps p.tables e below (T149.setTop (mkF m 110 #[.val (.int a1), .val (.int b1), .val (.int c1), .val (.int v118), .val (.int v121), .val (.ref b125), .val (.int (own_del v121 c1)), .val (.long (((2 : Int64) * (v121.toInt64)) + (1 : Int64))), .second, .val (.int (1 : Int32)), .val (.int (1 : Int32)), .unset, .unset, .unset] [(.ref b125)])) _
      refine XS.iconst X149.here hx rfl (hb hby at_110) ?_
      show Steps p.tables e below (T149.setTop (mkF m 111 #[.val (.int a1), .val (.int b1), .val (.int c1), .val (.int v118), .val (.int v121), .val (.ref b125), .val (.int (own_del v121 c1)), .val (.long (((2 : Int64) * (v121.toInt64)) + (1 : Int64))), .second, .val (.int (1 : Int32)), .val (.int (1 : Int32)), .unset, .unset, .unset] [(.int (2 : Int32)), (.ref b125)])) _
      refine XS.iload X149.here hx rfl (hb hby at_111) rfl ?_
      show Steps p.tables e below (T149.setTop (mkF m 113 #[.val (.int a1), .val (.int b1), .val (.int c1), .val (.int v118), .val (.int v121), .val (.ref b125), .val (.int (own_del v121 c1)), .val (.long (((2 : Int64) * (v121.toInt64)) + (1 : Int64))), .second, .val (.int (1 : Int32)), .val (.int (1 : Int32)), .unset, .unset, .unset] [(.int v121), (.int (2 : Int32)), (.ref b125)])) _
      refine XS.imul X149.here hx rfl (hb hby at_113) rfl ?_
      exact kt
    obtain ⟨cq158, kq158, q158a, q158b, q158c⟩ := isOf hZ e149 f150
    obtain ⟨_, _, ⟨T158, L158, k158, n158⟩, -, X158, ⟨Lc158, hQ158, l158, y158, z158⟩, st158⟩ := X149.virtualBack hx (y := (⟨"com/example/totality/totality/core/ReadyRound", "delivers", "(I)Z"⟩ : MethodName)) (z := (⟨"com/example/totality/totality/core/ReadyRound", "delivers", "(I)Z"⟩ : MethodName)) hown (mvT hZ (hw _ (List.mem_of_getElem? (i := 58) rfl))) (mvT hZ (hw _ (List.mem_of_getElem? (i := 59) rfl))) (notFace_of_selects (args := #[]) (mvT hZ (hw _ (List.mem_of_getElem? (i := 61) rfl)))) (mvT hZ (hw _ (List.mem_of_getElem? (i := 61) rfl))) (mvT hZ (hw _ (List.mem_of_getElem? (i := 60) rfl))) (by decide) (backOf (W := 0) (rm8 l Z a0 hw [] b125 ((2 : Int32) * v121) v121 h145 n0 z147 F146) hZ (hw _ (List.mem_of_getElem? (i := 62) rfl)) (hw _ (List.mem_of_getElem? (i := 3) rfl)) (by decide) (by decide)) q158a q158c (g := (mkF m 114 #[.val (.int a1), .val (.int b1), .val (.int c1), .val (.int v118), .val (.int v121), .val (.ref b125), .val (.int (own_del v121 c1)), .val (.long (((2 : Int64) * (v121.toInt64)) + (1 : Int64))), .second, .val (.int (1 : Int32)), .val (.int (1 : Int32)), .unset, .unset, .unset] [(.int ((2 : Int32) * v121)), (.ref b125)])) rfl (by rw [hml]; rfl) (Steps.refl _) (argsL := [(.int ((2 : Int32) * v121))]) (rest := []) (lenOf pd_5 rfl) rfl (by show 2 * 0 + _ ≤ _; exact Nat.le_of_eq rfl) (hb hby at_114) (fun _ _ => ⟨rfl, e149, (by decide : 6 + 0 ≤ _), (by decide : 110 + 0 ≤ _)⟩)
    dsimp only [Pt.U, Pt.locs, Pt.cells, Pt.slots] at X158 l158 y158 z158 st158 hQ158
    subst l158 y158 z158
    obtain ⟨rfl, N158q, e158⟩ := hQ158
    have N158 := Fr.app N149 N158q
    have S159 : ∀ t, Steps p.tables e below (T158.setTop (mkF m 135 #[.val (.int a1), .val (.int b1), .val (.int c1), .val (.int v118), .val (.int v121), .val (.ref b125), .val (.int (own_del v121 c1)), .val (.long (((2 : Int64) * (v121.toInt64)) + (1 : Int64))), .second, .val (.int (1 : Int32)), .val (.int (1 : Int32)), .val (.int (1 : Int32)), .unset, .unset] [(.int (((2 : Int32) * v121) + (1 : Int32))), (.ref b125)])) t → Steps p.tables e below (T158.setTop (mkF m 117 #[.val (.int a1), .val (.int b1), .val (.int c1), .val (.int v118), .val (.int v121), .val (.ref b125), .val (.int (own_del v121 c1)), .val (.long (((2 : Int64) * (v121.toInt64)) + (1 : Int64))), .second, .val (.int (1 : Int32)), .val (.int (1 : Int32)), .unset, .unset, .unset] [(.int (own_del v121 ((2 : Int32) * v121)))])) t := by
      intro t kt
      show Steps p.tables e below (T158.setTop (mkF m 117 #[.val (.int a1), .val (.int b1), .val (.int c1), .val (.int v118), .val (.int v121), .val (.ref b125), .val (.int (own_del v121 c1)), .val (.long (((2 : Int64) * (v121.toInt64)) + (1 : Int64))), .second, .val (.int (1 : Int32)), .val (.int (1 : Int32)), .unset, .unset, .unset] [(.int (own_del v121 ((2 : Int32) * v121)))])) _
      refine XS.ifNo X158.here hx rfl (hb hby at_117) rfl ((if0 _ _).trans (teq (own_below hok)).2) ?_
      show Steps p.tables e below (T158.setTop (mkF m 120 #[.val (.int a1), .val (.int b1), .val (.int c1), .val (.int v118), .val (.int v121), .val (.ref b125), .val (.int (own_del v121 c1)), .val (.long (((2 : Int64) * (v121.toInt64)) + (1 : Int64))), .second, .val (.int (1 : Int32)), .val (.int (1 : Int32)), .unset, .unset, .unset] [])) _
      refine XS.iconst X158.here hx rfl (hb hby at_120) ?_
      show Steps p.tables e below (T158.setTop (mkF m 121 #[.val (.int a1), .val (.int b1), .val (.int c1), .val (.int v118), .val (.int v121), .val (.ref b125), .val (.int (own_del v121 c1)), .val (.long (((2 : Int64) * (v121.toInt64)) + (1 : Int64))), .second, .val (.int (1 : Int32)), .val (.int (1 : Int32)), .unset, .unset, .unset] [(.int (1 : Int32))])) _
      refine XS.goto X158.here hx rfl (pc0 := 121) (pc' := 125) rfl (hb hby at_121) (by decide) (by decide) ?_
      show Steps p.tables e below (T158.setTop (mkF m 125 #[.val (.int a1), .val (.int b1), .val (.int c1), .val (.int v118), .val (.int v121), .val (.ref b125), .val (.int (own_del v121 c1)), .val (.long (((2 : Int64) * (v121.toInt64)) + (1 : Int64))), .second, .val (.int (1 : Int32)), .val (.int (1 : Int32)), .unset, .unset, .unset] [(.int (1 : Int32))])) _
      refine XS.istore X158.here hx rfl (hb hby at_125) rfl (l' := #[.val (.int a1), .val (.int b1), .val (.int c1), .val (.int v118), .val (.int v121), .val (.ref b125), .val (.int (own_del v121 c1)), .val (.long (((2 : Int64) * (v121.toInt64)) + (1 : Int64))), .second, .val (.int (1 : Int32)), .val (.int (1 : Int32)), .val (.int (1 : Int32)), .unset, .unset]) rfl ?_
      show Steps p.tables e below (T158.setTop (mkF m 127 #[.val (.int a1), .val (.int b1), .val (.int c1), .val (.int v118), .val (.int v121), .val (.ref b125), .val (.int (own_del v121 c1)), .val (.long (((2 : Int64) * (v121.toInt64)) + (1 : Int64))), .second, .val (.int (1 : Int32)), .val (.int (1 : Int32)), .val (.int (1 : Int32)), .unset, .unset] [])) _
      refine XS.aload X158.here hx rfl (hb hby at_127) rfl rfl ?_
      show Steps p.tables e below (T158.setTop (mkF m 129 #[.val (.int a1), .val (.int b1), .val (.int c1), .val (.int v118), .val (.int v121), .val (.ref b125), .val (.int (own_del v121 c1)), .val (.long (((2 : Int64) * (v121.toInt64)) + (1 : Int64))), .second, .val (.int (1 : Int32)), .val (.int (1 : Int32)), .val (.int (1 : Int32)), .unset, .unset] [(.ref b125)])) _
      refine XS.iconst X158.here hx rfl (hb hby at_129) ?_
      show Steps p.tables e below (T158.setTop (mkF m 130 #[.val (.int a1), .val (.int b1), .val (.int c1), .val (.int v118), .val (.int v121), .val (.ref b125), .val (.int (own_del v121 c1)), .val (.long (((2 : Int64) * (v121.toInt64)) + (1 : Int64))), .second, .val (.int (1 : Int32)), .val (.int (1 : Int32)), .val (.int (1 : Int32)), .unset, .unset] [(.int (2 : Int32)), (.ref b125)])) _
      refine XS.iload X158.here hx rfl (hb hby at_130) rfl ?_
      show Steps p.tables e below (T158.setTop (mkF m 132 #[.val (.int a1), .val (.int b1), .val (.int c1), .val (.int v118), .val (.int v121), .val (.ref b125), .val (.int (own_del v121 c1)), .val (.long (((2 : Int64) * (v121.toInt64)) + (1 : Int64))), .second, .val (.int (1 : Int32)), .val (.int (1 : Int32)), .val (.int (1 : Int32)), .unset, .unset] [(.int v121), (.int (2 : Int32)), (.ref b125)])) _
      refine XS.imul X158.here hx rfl (hb hby at_132) rfl ?_
      show Steps p.tables e below (T158.setTop (mkF m 133 #[.val (.int a1), .val (.int b1), .val (.int c1), .val (.int v118), .val (.int v121), .val (.ref b125), .val (.int (own_del v121 c1)), .val (.long (((2 : Int64) * (v121.toInt64)) + (1 : Int64))), .second, .val (.int (1 : Int32)), .val (.int (1 : Int32)), .val (.int (1 : Int32)), .unset, .unset] [(.int ((2 : Int32) * v121)), (.ref b125)])) _
      refine XS.iconst X158.here hx rfl (hb hby at_133) ?_
      show Steps p.tables e below (T158.setTop (mkF m 134 #[.val (.int a1), .val (.int b1), .val (.int c1), .val (.int v118), .val (.int v121), .val (.ref b125), .val (.int (own_del v121 c1)), .val (.long (((2 : Int64) * (v121.toInt64)) + (1 : Int64))), .second, .val (.int (1 : Int32)), .val (.int (1 : Int32)), .val (.int (1 : Int32)), .unset, .unset] [(.int (1 : Int32)), (.int ((2 : Int32) * v121)), (.ref b125)])) _
      refine XS.iadd X158.here hx rfl (hb hby at_134) rfl ?_
      exact kt
    obtain ⟨cq160, kq160, q160a, q160b, q160c⟩ := isOf hZ e158 f150
    obtain ⟨_, _, ⟨T160, L160, k160, n160⟩, -, X160, ⟨Lc160, hQ160, l160, y160, z160⟩, st160⟩ := X158.virtualBack hx (y := (⟨"com/example/totality/totality/core/ReadyRound", "delivers", "(I)Z"⟩ : MethodName)) (z := (⟨"com/example/totality/totality/core/ReadyRound", "delivers", "(I)Z"⟩ : MethodName)) hown (mvT hZ (hw _ (List.mem_of_getElem? (i := 58) rfl))) (mvT hZ (hw _ (List.mem_of_getElem? (i := 59) rfl))) (notFace_of_selects (args := #[]) (mvT hZ (hw _ (List.mem_of_getElem? (i := 61) rfl)))) (mvT hZ (hw _ (List.mem_of_getElem? (i := 61) rfl))) (mvT hZ (hw _ (List.mem_of_getElem? (i := 60) rfl))) (by decide) (backOf (W := 0) (rm8 l Z a0 hw [] b125 (((2 : Int32) * v121) + (1 : Int32)) v121 h145 n0 z147 F146) hZ (hw _ (List.mem_of_getElem? (i := 62) rfl)) (hw _ (List.mem_of_getElem? (i := 3) rfl)) (by decide) (by decide)) q160a q160c (g := (mkF m 135 #[.val (.int a1), .val (.int b1), .val (.int c1), .val (.int v118), .val (.int v121), .val (.ref b125), .val (.int (own_del v121 c1)), .val (.long (((2 : Int64) * (v121.toInt64)) + (1 : Int64))), .second, .val (.int (1 : Int32)), .val (.int (1 : Int32)), .val (.int (1 : Int32)), .unset, .unset] [(.int (((2 : Int32) * v121) + (1 : Int32))), (.ref b125)])) rfl (by rw [hml]; rfl) (Steps.refl _) (argsL := [(.int (((2 : Int32) * v121) + (1 : Int32)))]) (rest := []) (lenOf pd_5 rfl) rfl (by show 2 * 0 + _ ≤ _; exact Nat.le_of_eq rfl) (hb hby at_135) (fun _ _ => ⟨rfl, e158, (by decide : 6 + 0 ≤ _), (by decide : 110 + 0 ≤ _)⟩)
    dsimp only [Pt.U, Pt.locs, Pt.cells, Pt.slots] at X160 l160 y160 z160 st160 hQ160
    subst l160 y160 z160
    obtain ⟨rfl, N160q, e160⟩ := hQ160
    have N160 := Fr.app N158 N160q
    have S161 : ∀ t, Steps p.tables e below (T160.setTop (mkF m 146 #[.val (.int a1), .val (.int b1), .val (.int c1), .val (.int v118), .val (.int v121), .val (.ref b125), .val (.int (own_del v121 c1)), .val (.long (((2 : Int64) * (v121.toInt64)) + (1 : Int64))), .second, .val (.int (1 : Int32)), .val (.int (1 : Int32)), .val (.int (1 : Int32)), .val (.int (own_del v121 (((2 : Int32) * v121) + (1 : Int32)))), .unset] [(.int (v118 - v121)), (.ref b125)])) t → Steps p.tables e below (T160.setTop (mkF m 138 #[.val (.int a1), .val (.int b1), .val (.int c1), .val (.int v118), .val (.int v121), .val (.ref b125), .val (.int (own_del v121 c1)), .val (.long (((2 : Int64) * (v121.toInt64)) + (1 : Int64))), .second, .val (.int (1 : Int32)), .val (.int (1 : Int32)), .val (.int (1 : Int32)), .unset, .unset] [(.int (own_del v121 (((2 : Int32) * v121) + (1 : Int32))))])) t := by
      intro t kt
      show Steps p.tables e below (T160.setTop (mkF m 138 #[.val (.int a1), .val (.int b1), .val (.int c1), .val (.int v118), .val (.int v121), .val (.ref b125), .val (.int (own_del v121 c1)), .val (.long (((2 : Int64) * (v121.toInt64)) + (1 : Int64))), .second, .val (.int (1 : Int32)), .val (.int (1 : Int32)), .val (.int (1 : Int32)), .unset, .unset] [(.int (own_del v121 (((2 : Int32) * v121) + (1 : Int32))))])) _
      refine XS.istore X160.here hx rfl (hb hby at_138) rfl (l' := #[.val (.int a1), .val (.int b1), .val (.int c1), .val (.int v118), .val (.int v121), .val (.ref b125), .val (.int (own_del v121 c1)), .val (.long (((2 : Int64) * (v121.toInt64)) + (1 : Int64))), .second, .val (.int (1 : Int32)), .val (.int (1 : Int32)), .val (.int (1 : Int32)), .val (.int (own_del v121 (((2 : Int32) * v121) + (1 : Int32)))), .unset]) rfl ?_
      show Steps p.tables e below (T160.setTop (mkF m 140 #[.val (.int a1), .val (.int b1), .val (.int c1), .val (.int v118), .val (.int v121), .val (.ref b125), .val (.int (own_del v121 c1)), .val (.long (((2 : Int64) * (v121.toInt64)) + (1 : Int64))), .second, .val (.int (1 : Int32)), .val (.int (1 : Int32)), .val (.int (1 : Int32)), .val (.int (own_del v121 (((2 : Int32) * v121) + (1 : Int32)))), .unset] [])) _
      refine XS.aload X160.here hx rfl (hb hby at_140) rfl rfl ?_
      show Steps p.tables e below (T160.setTop (mkF m 142 #[.val (.int a1), .val (.int b1), .val (.int c1), .val (.int v118), .val (.int v121), .val (.ref b125), .val (.int (own_del v121 c1)), .val (.long (((2 : Int64) * (v121.toInt64)) + (1 : Int64))), .second, .val (.int (1 : Int32)), .val (.int (1 : Int32)), .val (.int (1 : Int32)), .val (.int (own_del v121 (((2 : Int32) * v121) + (1 : Int32)))), .unset] [(.ref b125)])) _
      refine XS.iloadN X160.here hx rfl (hb hby at_142) rfl ?_
      show Steps p.tables e below (T160.setTop (mkF m 143 #[.val (.int a1), .val (.int b1), .val (.int c1), .val (.int v118), .val (.int v121), .val (.ref b125), .val (.int (own_del v121 c1)), .val (.long (((2 : Int64) * (v121.toInt64)) + (1 : Int64))), .second, .val (.int (1 : Int32)), .val (.int (1 : Int32)), .val (.int (1 : Int32)), .val (.int (own_del v121 (((2 : Int32) * v121) + (1 : Int32)))), .unset] [(.int v118), (.ref b125)])) _
      refine XS.iload X160.here hx rfl (hb hby at_143) rfl ?_
      show Steps p.tables e below (T160.setTop (mkF m 145 #[.val (.int a1), .val (.int b1), .val (.int c1), .val (.int v118), .val (.int v121), .val (.ref b125), .val (.int (own_del v121 c1)), .val (.long (((2 : Int64) * (v121.toInt64)) + (1 : Int64))), .second, .val (.int (1 : Int32)), .val (.int (1 : Int32)), .val (.int (1 : Int32)), .val (.int (own_del v121 (((2 : Int32) * v121) + (1 : Int32)))), .unset] [(.int v121), (.int v118), (.ref b125)])) _
      refine XS.isub X160.here hx rfl (hb hby at_145) rfl ?_
      exact kt
    obtain ⟨cq162, kq162, q162a, q162b, q162c⟩ := isOf hZ e160 f150
    obtain ⟨_, _, ⟨T162, L162, k162, n162⟩, -, X162, ⟨Lc162, hQ162, l162, y162, z162⟩, st162⟩ := X160.virtualBack hx (y := (⟨"com/example/totality/totality/core/ReadyRound", "delivers", "(I)Z"⟩ : MethodName)) (z := (⟨"com/example/totality/totality/core/ReadyRound", "delivers", "(I)Z"⟩ : MethodName)) hown (mvT hZ (hw _ (List.mem_of_getElem? (i := 58) rfl))) (mvT hZ (hw _ (List.mem_of_getElem? (i := 59) rfl))) (notFace_of_selects (args := #[]) (mvT hZ (hw _ (List.mem_of_getElem? (i := 61) rfl)))) (mvT hZ (hw _ (List.mem_of_getElem? (i := 61) rfl))) (mvT hZ (hw _ (List.mem_of_getElem? (i := 60) rfl))) (by decide) (backOf (W := 0) (rm8 l Z a0 hw [] b125 (v118 - v121) v121 h145 n0 z147 F146) hZ (hw _ (List.mem_of_getElem? (i := 62) rfl)) (hw _ (List.mem_of_getElem? (i := 3) rfl)) (by decide) (by decide)) q162a q162c (g := (mkF m 146 #[.val (.int a1), .val (.int b1), .val (.int c1), .val (.int v118), .val (.int v121), .val (.ref b125), .val (.int (own_del v121 c1)), .val (.long (((2 : Int64) * (v121.toInt64)) + (1 : Int64))), .second, .val (.int (1 : Int32)), .val (.int (1 : Int32)), .val (.int (1 : Int32)), .val (.int (own_del v121 (((2 : Int32) * v121) + (1 : Int32)))), .unset] [(.int (v118 - v121)), (.ref b125)])) rfl (by rw [hml]; rfl) (Steps.refl _) (argsL := [(.int (v118 - v121))]) (rest := []) (lenOf pd_5 rfl) rfl (by show 2 * 0 + _ ≤ _; exact Nat.le_of_eq rfl) (hb hby at_146) (fun _ _ => ⟨rfl, e160, (by decide : 6 + 0 ≤ _), (by decide : 110 + 0 ≤ _)⟩)
    dsimp only [Pt.U, Pt.locs, Pt.cells, Pt.slots] at X162 l162 y162 z162 st162 hQ162
    subst l162 y162 z162
    obtain ⟨rfl, N162q, e162⟩ := hQ162
    have N162 := Fr.app N160 N162q
    have S163 : ∀ t, Steps p.tables e below (T162.setTop (mkF m 181 #[.val (.int a1), .val (.int b1), .val (.int c1), .val (.int v118), .val (.int v121), .val (.ref b125), .val (.int (own_del v121 c1)), .val (.long (((2 : Int64) * (v121.toInt64)) + (1 : Int64))), .second, .val (.int (1 : Int32)), .val (.int (1 : Int32)), .val (.int (1 : Int32)), .val (.int (own_del v121 (((2 : Int32) * v121) + (1 : Int32)))), .val (.int (own_del v121 (v118 - v121)))] [(.int (1 : Int32))])) t → Steps p.tables e below (T162.setTop (mkF m 149 #[.val (.int a1), .val (.int b1), .val (.int c1), .val (.int v118), .val (.int v121), .val (.ref b125), .val (.int (own_del v121 c1)), .val (.long (((2 : Int64) * (v121.toInt64)) + (1 : Int64))), .second, .val (.int (1 : Int32)), .val (.int (1 : Int32)), .val (.int (1 : Int32)), .val (.int (own_del v121 (((2 : Int32) * v121) + (1 : Int32)))), .unset] [(.int (own_del v121 (v118 - v121)))])) t := by
      intro t kt
      show Steps p.tables e below (T162.setTop (mkF m 149 #[.val (.int a1), .val (.int b1), .val (.int c1), .val (.int v118), .val (.int v121), .val (.ref b125), .val (.int (own_del v121 c1)), .val (.long (((2 : Int64) * (v121.toInt64)) + (1 : Int64))), .second, .val (.int (1 : Int32)), .val (.int (1 : Int32)), .val (.int (1 : Int32)), .val (.int (own_del v121 (((2 : Int32) * v121) + (1 : Int32)))), .unset] [(.int (own_del v121 (v118 - v121)))])) _
      refine XS.istore X162.here hx rfl (hb hby at_149) rfl (l' := #[.val (.int a1), .val (.int b1), .val (.int c1), .val (.int v118), .val (.int v121), .val (.ref b125), .val (.int (own_del v121 c1)), .val (.long (((2 : Int64) * (v121.toInt64)) + (1 : Int64))), .second, .val (.int (1 : Int32)), .val (.int (1 : Int32)), .val (.int (1 : Int32)), .val (.int (own_del v121 (((2 : Int32) * v121) + (1 : Int32)))), .val (.int (own_del v121 (v118 - v121)))]) rfl ?_
      show Steps p.tables e below (T162.setTop (mkF m 151 #[.val (.int a1), .val (.int b1), .val (.int c1), .val (.int v118), .val (.int v121), .val (.ref b125), .val (.int (own_del v121 c1)), .val (.long (((2 : Int64) * (v121.toInt64)) + (1 : Int64))), .second, .val (.int (1 : Int32)), .val (.int (1 : Int32)), .val (.int (1 : Int32)), .val (.int (own_del v121 (((2 : Int32) * v121) + (1 : Int32)))), .val (.int (own_del v121 (v118 - v121)))] [])) _
      refine XS.iload X162.here hx rfl (hb hby at_151) rfl ?_
      show Steps p.tables e below (T162.setTop (mkF m 153 #[.val (.int a1), .val (.int b1), .val (.int c1), .val (.int v118), .val (.int v121), .val (.ref b125), .val (.int (own_del v121 c1)), .val (.long (((2 : Int64) * (v121.toInt64)) + (1 : Int64))), .second, .val (.int (1 : Int32)), .val (.int (1 : Int32)), .val (.int (1 : Int32)), .val (.int (own_del v121 (((2 : Int32) * v121) + (1 : Int32)))), .val (.int (own_del v121 (v118 - v121)))] [(.int (1 : Int32))])) _
      refine XS.ifNo X162.here hx rfl (hb hby at_153) rfl ((if0 _ _).trans (feq (by decide)).1) ?_
      show Steps p.tables e below (T162.setTop (mkF m 156 #[.val (.int a1), .val (.int b1), .val (.int c1), .val (.int v118), .val (.int v121), .val (.ref b125), .val (.int (own_del v121 c1)), .val (.long (((2 : Int64) * (v121.toInt64)) + (1 : Int64))), .second, .val (.int (1 : Int32)), .val (.int (1 : Int32)), .val (.int (1 : Int32)), .val (.int (own_del v121 (((2 : Int32) * v121) + (1 : Int32)))), .val (.int (own_del v121 (v118 - v121)))] [])) _
      refine XS.iload X162.here hx rfl (hb hby at_156) rfl ?_
      show Steps p.tables e below (T162.setTop (mkF m 158 #[.val (.int a1), .val (.int b1), .val (.int c1), .val (.int v118), .val (.int v121), .val (.ref b125), .val (.int (own_del v121 c1)), .val (.long (((2 : Int64) * (v121.toInt64)) + (1 : Int64))), .second, .val (.int (1 : Int32)), .val (.int (1 : Int32)), .val (.int (1 : Int32)), .val (.int (own_del v121 (((2 : Int32) * v121) + (1 : Int32)))), .val (.int (own_del v121 (v118 - v121)))] [(.int (1 : Int32))])) _
      refine XS.ifNo X162.here hx rfl (hb hby at_158) rfl ((if0 _ _).trans (feq (by decide)).1) ?_
      show Steps p.tables e below (T162.setTop (mkF m 161 #[.val (.int a1), .val (.int b1), .val (.int c1), .val (.int v118), .val (.int v121), .val (.ref b125), .val (.int (own_del v121 c1)), .val (.long (((2 : Int64) * (v121.toInt64)) + (1 : Int64))), .second, .val (.int (1 : Int32)), .val (.int (1 : Int32)), .val (.int (1 : Int32)), .val (.int (own_del v121 (((2 : Int32) * v121) + (1 : Int32)))), .val (.int (own_del v121 (v118 - v121)))] [])) _
      refine XS.iload X162.here hx rfl (hb hby at_161) rfl ?_
      show Steps p.tables e below (T162.setTop (mkF m 163 #[.val (.int a1), .val (.int b1), .val (.int c1), .val (.int v118), .val (.int v121), .val (.ref b125), .val (.int (own_del v121 c1)), .val (.long (((2 : Int64) * (v121.toInt64)) + (1 : Int64))), .second, .val (.int (1 : Int32)), .val (.int (1 : Int32)), .val (.int (1 : Int32)), .val (.int (own_del v121 (((2 : Int32) * v121) + (1 : Int32)))), .val (.int (own_del v121 (v118 - v121)))] [(.int (1 : Int32))])) _
      refine XS.ifNo X162.here hx rfl (hb hby at_163) rfl ((if0 _ _).trans (feq (by decide)).1) ?_
      show Steps p.tables e below (T162.setTop (mkF m 166 #[.val (.int a1), .val (.int b1), .val (.int c1), .val (.int v118), .val (.int v121), .val (.ref b125), .val (.int (own_del v121 c1)), .val (.long (((2 : Int64) * (v121.toInt64)) + (1 : Int64))), .second, .val (.int (1 : Int32)), .val (.int (1 : Int32)), .val (.int (1 : Int32)), .val (.int (own_del v121 (((2 : Int32) * v121) + (1 : Int32)))), .val (.int (own_del v121 (v118 - v121)))] [])) _
      refine XS.iload X162.here hx rfl (hb hby at_166) rfl ?_
      show Steps p.tables e below (T162.setTop (mkF m 168 #[.val (.int a1), .val (.int b1), .val (.int c1), .val (.int v118), .val (.int v121), .val (.ref b125), .val (.int (own_del v121 c1)), .val (.long (((2 : Int64) * (v121.toInt64)) + (1 : Int64))), .second, .val (.int (1 : Int32)), .val (.int (1 : Int32)), .val (.int (1 : Int32)), .val (.int (own_del v121 (((2 : Int32) * v121) + (1 : Int32)))), .val (.int (own_del v121 (v118 - v121)))] [(.int (own_del v121 (((2 : Int32) * v121) + (1 : Int32))))])) _
      refine XS.ifNo X162.here hx rfl (hb hby at_168) rfl ((if0 _ _).trans (feq (own_at hok)).1) ?_
      show Steps p.tables e below (T162.setTop (mkF m 171 #[.val (.int a1), .val (.int b1), .val (.int c1), .val (.int v118), .val (.int v121), .val (.ref b125), .val (.int (own_del v121 c1)), .val (.long (((2 : Int64) * (v121.toInt64)) + (1 : Int64))), .second, .val (.int (1 : Int32)), .val (.int (1 : Int32)), .val (.int (1 : Int32)), .val (.int (own_del v121 (((2 : Int32) * v121) + (1 : Int32)))), .val (.int (own_del v121 (v118 - v121)))] [])) _
      refine XS.iload X162.here hx rfl (hb hby at_171) rfl ?_
      show Steps p.tables e below (T162.setTop (mkF m 173 #[.val (.int a1), .val (.int b1), .val (.int c1), .val (.int v118), .val (.int v121), .val (.ref b125), .val (.int (own_del v121 c1)), .val (.long (((2 : Int64) * (v121.toInt64)) + (1 : Int64))), .second, .val (.int (1 : Int32)), .val (.int (1 : Int32)), .val (.int (1 : Int32)), .val (.int (own_del v121 (((2 : Int32) * v121) + (1 : Int32)))), .val (.int (own_del v121 (v118 - v121)))] [(.int (own_del v121 (v118 - v121)))])) _
      refine XS.ifNo X162.here hx rfl (hb hby at_173) rfl ((if0 _ _).trans (feq (own_suff hok)).1) ?_
      show Steps p.tables e below (T162.setTop (mkF m 176 #[.val (.int a1), .val (.int b1), .val (.int c1), .val (.int v118), .val (.int v121), .val (.ref b125), .val (.int (own_del v121 c1)), .val (.long (((2 : Int64) * (v121.toInt64)) + (1 : Int64))), .second, .val (.int (1 : Int32)), .val (.int (1 : Int32)), .val (.int (1 : Int32)), .val (.int (own_del v121 (((2 : Int32) * v121) + (1 : Int32)))), .val (.int (own_del v121 (v118 - v121)))] [])) _
      refine XS.iconst X162.here hx rfl (hb hby at_176) ?_
      show Steps p.tables e below (T162.setTop (mkF m 177 #[.val (.int a1), .val (.int b1), .val (.int c1), .val (.int v118), .val (.int v121), .val (.ref b125), .val (.int (own_del v121 c1)), .val (.long (((2 : Int64) * (v121.toInt64)) + (1 : Int64))), .second, .val (.int (1 : Int32)), .val (.int (1 : Int32)), .val (.int (1 : Int32)), .val (.int (own_del v121 (((2 : Int32) * v121) + (1 : Int32)))), .val (.int (own_del v121 (v118 - v121)))] [(.int (1 : Int32))])) _
      refine XS.goto X162.here hx rfl (pc0 := 177) (pc' := 181) rfl (hb hby at_177) (by decide) (by decide) ?_
      exact kt
    have C164 : ∀ t, Steps p.tables e below (T162.setTop (mkF m 181 #[.val (.int a1), .val (.int b1), .val (.int c1), .val (.int v118), .val (.int v121), .val (.ref b125), .val (.int (own_del v121 c1)), .val (.long (((2 : Int64) * (v121.toInt64)) + (1 : Int64))), .second, .val (.int (1 : Int32)), .val (.int (1 : Int32)), .val (.int (1 : Int32)), .val (.int (own_del v121 (((2 : Int32) * v121) + (1 : Int32)))), .val (.int (own_del v121 (v118 - v121)))] [(.int (1 : Int32))])) t → Steps p.tables e below (s₁.setTop (mkF m 0 #[.val (.int a1), .val (.int b1), .val (.int c1), .unset, .unset, .unset, .unset, .unset, .unset, .unset, .unset, .unset, .unset, .unset] [])) t := (fun t k => (S119 t (S120 t (S122 t (S123 t (S124 t (st125 t (S130 t (st131 t (S136 t (st137.trans (st145.trans (S148 t (st149.trans (S151 t (S153 t (S155 t (S157 t (st158.trans (S159 t (st160.trans (S161 t (st162.trans (S163 t k))))))))))))))))))))))))
    obtain ⟨fs, hr, hrun, hended, hW, hsame⟩ := X162.leave (v := some (.int (1 : Int32))) (fun h => by rw [Bd.returns] at h; cases h)
    refine ⟨_, _, pre0 _ (C164 _ ?_), hrun, hended, _, _, rfl, ?_, ⟨_, rfl⟩, hW, hsame.mono (by decide) (by decide)⟩
    · exact retN X162 hx (t := .boolean) Bd.returns (by simp) (hb hby at_181) hr
    · show Q_rm0 Z a1 b1 c1 h0 n0 _ T162.heap _
      rw [e162]
      exact ⟨rfl, N162⟩
  · have S165 : ∀ t, Steps p.tables e below (T149.setTop (mkF m 95 #[.val (.int a1), .val (.int b1), .val (.int c1), .val (.int v118), .val (.int v121), .val (.ref b125), .val (.int (own_del v121 c1)), .val (.long (((2 : Int64) * (v121.toInt64)) + (1 : Int64))), .second, .val (.int (1 : Int32)), .unset, .unset, .unset, .unset] [(.int c1), (.ref b125)])) t → Steps p.tables e below (T149.setTop (mkF m 89 #[.val (.int a1), .val (.int b1), .val (.int c1), .val (.int v118), .val (.int v121), .val (.ref b125), .val (.int (own_del v121 c1)), .val (.long (((2 : Int64) * (v121.toInt64)) + (1 : Int64))), .second, .val (.int (1 : Int32)), .unset, .unset, .unset, .unset] [(.int (own_del v121 c1))])) t := by
      intro t kt
      show Steps p.tables e below (T149.setTop (mkF m 89 #[.val (.int a1), .val (.int b1), .val (.int c1), .val (.int v118), .val (.int v121), .val (.ref b125), .val (.int (own_del v121 c1)), .val (.long (((2 : Int64) * (v121.toInt64)) + (1 : Int64))), .second, .val (.int (1 : Int32)), .unset, .unset, .unset, .unset] [(.int (own_del v121 c1))])) _
      refine XS.ifNo X149.here hx rfl (hb hby at_89) rfl ((if0 _ _).trans (feq hc156).1) ?_
      show Steps p.tables e below (T149.setTop (mkF m 92 #[.val (.int a1), .val (.int b1), .val (.int c1), .val (.int v118), .val (.int v121), .val (.ref b125), .val (.int (own_del v121 c1)), .val (.long (((2 : Int64) * (v121.toInt64)) + (1 : Int64))), .second, .val (.int (1 : Int32)), .unset, .unset, .unset, .unset] [])) _
      refine XS.aload X149.here hx rfl (hb hby at_92) rfl rfl ?_
      show Steps p.tables e below (T149.setTop (mkF m 94 #[.val (.int a1), .val (.int b1), .val (.int c1), .val (.int v118), .val (.int v121), .val (.ref b125), .val (.int (own_del v121 c1)), .val (.long (((2 : Int64) * (v121.toInt64)) + (1 : Int64))), .second, .val (.int (1 : Int32)), .unset, .unset, .unset, .unset] [(.ref b125)])) _
      refine XS.iloadN X149.here hx rfl (hb hby at_94) rfl ?_
      exact kt
    obtain ⟨cq166, kq166, q166a, q166b, q166c⟩ := isOf hZ e149 f150
    obtain ⟨_, _, ⟨T166, L166, k166, n166⟩, -, X166, ⟨Lc166, hQ166, l166, y166, z166⟩, st166⟩ := X149.virtualBack hx (y := (⟨"com/example/totality/totality/core/ReadyRound", "readies", "(I)Z"⟩ : MethodName)) (z := (⟨"com/example/totality/totality/core/ReadyRound", "readies", "(I)Z"⟩ : MethodName)) hown (mvT hZ (hw _ (List.mem_of_getElem? (i := 64) rfl))) (mvT hZ (hw _ (List.mem_of_getElem? (i := 65) rfl))) (notFace_of_selects (args := #[]) (mvT hZ (hw _ (List.mem_of_getElem? (i := 67) rfl)))) (mvT hZ (hw _ (List.mem_of_getElem? (i := 67) rfl))) (mvT hZ (hw _ (List.mem_of_getElem? (i := 66) rfl))) (by decide) (backOf (W := 0) (rm9 l Z a0 hw [] b125 c1 v121 h145 n0 z147 F146) hZ (hw _ (List.mem_of_getElem? (i := 68) rfl)) (hw _ (List.mem_of_getElem? (i := 3) rfl)) (by decide) (by decide)) q166a q166c (g := (mkF m 95 #[.val (.int a1), .val (.int b1), .val (.int c1), .val (.int v118), .val (.int v121), .val (.ref b125), .val (.int (own_del v121 c1)), .val (.long (((2 : Int64) * (v121.toInt64)) + (1 : Int64))), .second, .val (.int (1 : Int32)), .unset, .unset, .unset, .unset] [(.int c1), (.ref b125)])) rfl (by rw [hml]; rfl) (Steps.refl _) (argsL := [(.int c1)]) (rest := []) (lenOf pd_5 rfl) rfl (by show 2 * 0 + _ ≤ _; exact Nat.le_of_eq rfl) (hb hby at_95) (fun _ _ => ⟨rfl, e149, (by decide : 6 + 0 ≤ _), (by decide : 110 + 0 ≤ _)⟩)
    dsimp only [Pt.U, Pt.locs, Pt.cells, Pt.slots] at X166 l166 y166 z166 st166 hQ166
    subst l166 y166 z166
    obtain ⟨rfl, N166q, e166⟩ := hQ166
    have N166 := Fr.app N149 N166q
    have S167 : ∀ t, Steps p.tables e below (T166.setTop (mkF m 114 #[.val (.int a1), .val (.int b1), .val (.int c1), .val (.int v118), .val (.int v121), .val (.ref b125), .val (.int (own_del v121 c1)), .val (.long (((2 : Int64) * (v121.toInt64)) + (1 : Int64))), .second, .val (.int (1 : Int32)), .val (.int (1 : Int32)), .unset, .unset, .unset] [(.int ((2 : Int32) * v121)), (.ref b125)])) t → Steps p.tables e below (T166.setTop (mkF m 98 #[.val (.int a1), .val (.int b1), .val (.int c1), .val (.int v118), .val (.int v121), .val (.ref b125), .val (.int (own_del v121 c1)), .val (.long (((2 : Int64) * (v121.toInt64)) + (1 : Int64))), .second, .val (.int (1 : Int32)), .unset, .unset, .unset, .unset] [(.int (own_rea v121 c1))])) t := by
      intro t kt
      show Steps p.tables e below (T166.setTop (mkF m 98 #[.val (.int a1), .val (.int b1), .val (.int c1), .val (.int v118), .val (.int v121), .val (.ref b125), .val (.int (own_del v121 c1)), .val (.long (((2 : Int64) * (v121.toInt64)) + (1 : Int64))), .second, .val (.int (1 : Int32)), .unset, .unset, .unset, .unset] [(.int (own_rea v121 c1))])) _
      refine XS.ifNo X166.here hx rfl (hb hby at_98) rfl ((if0 _ _).trans (feq (own_imp hok hc156)).1) ?_
      show Steps p.tables e below (T166.setTop (mkF m 101 #[.val (.int a1), .val (.int b1), .val (.int c1), .val (.int v118), .val (.int v121), .val (.ref b125), .val (.int (own_del v121 c1)), .val (.long (((2 : Int64) * (v121.toInt64)) + (1 : Int64))), .second, .val (.int (1 : Int32)), .unset, .unset, .unset, .unset] [])) _
      refine XS.iconst X166.here hx rfl (hb hby at_101) ?_
      show Steps p.tables e below (T166.setTop (mkF m 102 #[.val (.int a1), .val (.int b1), .val (.int c1), .val (.int v118), .val (.int v121), .val (.ref b125), .val (.int (own_del v121 c1)), .val (.long (((2 : Int64) * (v121.toInt64)) + (1 : Int64))), .second, .val (.int (1 : Int32)), .unset, .unset, .unset, .unset] [(.int (1 : Int32))])) _
      refine XS.goto X166.here hx rfl (pc0 := 102) (pc' := 106) rfl (hb hby at_102) (by decide) (by decide) ?_
      show Steps p.tables e below (T166.setTop (mkF m 106 #[.val (.int a1), .val (.int b1), .val (.int c1), .val (.int v118), .val (.int v121), .val (.ref b125), .val (.int (own_del v121 c1)), .val (.long (((2 : Int64) * (v121.toInt64)) + (1 : Int64))), .second, .val (.int (1 : Int32)), .unset, .unset, .unset, .unset] [(.int (1 : Int32))])) _
      refine XS.istore X166.here hx rfl (hb hby at_106) rfl (l' := #[.val (.int a1), .val (.int b1), .val (.int c1), .val (.int v118), .val (.int v121), .val (.ref b125), .val (.int (own_del v121 c1)), .val (.long (((2 : Int64) * (v121.toInt64)) + (1 : Int64))), .second, .val (.int (1 : Int32)), .val (.int (1 : Int32)), .unset, .unset, .unset]) rfl ?_
      show Steps p.tables e below (T166.setTop (mkF m 108 #[.val (.int a1), .val (.int b1), .val (.int c1), .val (.int v118), .val (.int v121), .val (.ref b125), .val (.int (own_del v121 c1)), .val (.long (((2 : Int64) * (v121.toInt64)) + (1 : Int64))), .second, .val (.int (1 : Int32)), .val (.int (1 : Int32)), .unset, .unset, .unset] [])) _
      refine XS.aload X166.here hx rfl (hb hby at_108) rfl rfl ?_
      show Steps p.tables e below (T166.setTop (mkF m 110 #[.val (.int a1), .val (.int b1), .val (.int c1), .val (.int v118), .val (.int v121), .val (.ref b125), .val (.int (own_del v121 c1)), .val (.long (((2 : Int64) * (v121.toInt64)) + (1 : Int64))), .second, .val (.int (1 : Int32)), .val (.int (1 : Int32)), .unset, .unset, .unset] [(.ref b125)])) _
      refine XS.iconst X166.here hx rfl (hb hby at_110) ?_
      show Steps p.tables e below (T166.setTop (mkF m 111 #[.val (.int a1), .val (.int b1), .val (.int c1), .val (.int v118), .val (.int v121), .val (.ref b125), .val (.int (own_del v121 c1)), .val (.long (((2 : Int64) * (v121.toInt64)) + (1 : Int64))), .second, .val (.int (1 : Int32)), .val (.int (1 : Int32)), .unset, .unset, .unset] [(.int (2 : Int32)), (.ref b125)])) _
      refine XS.iload X166.here hx rfl (hb hby at_111) rfl ?_
      show Steps p.tables e below (T166.setTop (mkF m 113 #[.val (.int a1), .val (.int b1), .val (.int c1), .val (.int v118), .val (.int v121), .val (.ref b125), .val (.int (own_del v121 c1)), .val (.long (((2 : Int64) * (v121.toInt64)) + (1 : Int64))), .second, .val (.int (1 : Int32)), .val (.int (1 : Int32)), .unset, .unset, .unset] [(.int v121), (.int (2 : Int32)), (.ref b125)])) _
      refine XS.imul X166.here hx rfl (hb hby at_113) rfl ?_
      exact kt
    obtain ⟨cq168, kq168, q168a, q168b, q168c⟩ := isOf hZ e166 f150
    obtain ⟨_, _, ⟨T168, L168, k168, n168⟩, -, X168, ⟨Lc168, hQ168, l168, y168, z168⟩, st168⟩ := X166.virtualBack hx (y := (⟨"com/example/totality/totality/core/ReadyRound", "delivers", "(I)Z"⟩ : MethodName)) (z := (⟨"com/example/totality/totality/core/ReadyRound", "delivers", "(I)Z"⟩ : MethodName)) hown (mvT hZ (hw _ (List.mem_of_getElem? (i := 58) rfl))) (mvT hZ (hw _ (List.mem_of_getElem? (i := 59) rfl))) (notFace_of_selects (args := #[]) (mvT hZ (hw _ (List.mem_of_getElem? (i := 61) rfl)))) (mvT hZ (hw _ (List.mem_of_getElem? (i := 61) rfl))) (mvT hZ (hw _ (List.mem_of_getElem? (i := 60) rfl))) (by decide) (backOf (W := 0) (rm8 l Z a0 hw [] b125 ((2 : Int32) * v121) v121 h145 n0 z147 F146) hZ (hw _ (List.mem_of_getElem? (i := 62) rfl)) (hw _ (List.mem_of_getElem? (i := 3) rfl)) (by decide) (by decide)) q168a q168c (g := (mkF m 114 #[.val (.int a1), .val (.int b1), .val (.int c1), .val (.int v118), .val (.int v121), .val (.ref b125), .val (.int (own_del v121 c1)), .val (.long (((2 : Int64) * (v121.toInt64)) + (1 : Int64))), .second, .val (.int (1 : Int32)), .val (.int (1 : Int32)), .unset, .unset, .unset] [(.int ((2 : Int32) * v121)), (.ref b125)])) rfl (by rw [hml]; rfl) (Steps.refl _) (argsL := [(.int ((2 : Int32) * v121))]) (rest := []) (lenOf pd_5 rfl) rfl (by show 2 * 0 + _ ≤ _; exact Nat.le_of_eq rfl) (hb hby at_114) (fun _ _ => ⟨rfl, e166, (by decide : 6 + 0 ≤ _), (by decide : 110 + 0 ≤ _)⟩)
    dsimp only [Pt.U, Pt.locs, Pt.cells, Pt.slots] at X168 l168 y168 z168 st168 hQ168
    subst l168 y168 z168
    obtain ⟨rfl, N168q, e168⟩ := hQ168
    have N168 := Fr.app N166 N168q
    have S169 : ∀ t, Steps p.tables e below (T168.setTop (mkF m 135 #[.val (.int a1), .val (.int b1), .val (.int c1), .val (.int v118), .val (.int v121), .val (.ref b125), .val (.int (own_del v121 c1)), .val (.long (((2 : Int64) * (v121.toInt64)) + (1 : Int64))), .second, .val (.int (1 : Int32)), .val (.int (1 : Int32)), .val (.int (1 : Int32)), .unset, .unset] [(.int (((2 : Int32) * v121) + (1 : Int32))), (.ref b125)])) t → Steps p.tables e below (T168.setTop (mkF m 117 #[.val (.int a1), .val (.int b1), .val (.int c1), .val (.int v118), .val (.int v121), .val (.ref b125), .val (.int (own_del v121 c1)), .val (.long (((2 : Int64) * (v121.toInt64)) + (1 : Int64))), .second, .val (.int (1 : Int32)), .val (.int (1 : Int32)), .unset, .unset, .unset] [(.int (own_del v121 ((2 : Int32) * v121)))])) t := by
      intro t kt
      show Steps p.tables e below (T168.setTop (mkF m 117 #[.val (.int a1), .val (.int b1), .val (.int c1), .val (.int v118), .val (.int v121), .val (.ref b125), .val (.int (own_del v121 c1)), .val (.long (((2 : Int64) * (v121.toInt64)) + (1 : Int64))), .second, .val (.int (1 : Int32)), .val (.int (1 : Int32)), .unset, .unset, .unset] [(.int (own_del v121 ((2 : Int32) * v121)))])) _
      refine XS.ifNo X168.here hx rfl (hb hby at_117) rfl ((if0 _ _).trans (teq (own_below hok)).2) ?_
      show Steps p.tables e below (T168.setTop (mkF m 120 #[.val (.int a1), .val (.int b1), .val (.int c1), .val (.int v118), .val (.int v121), .val (.ref b125), .val (.int (own_del v121 c1)), .val (.long (((2 : Int64) * (v121.toInt64)) + (1 : Int64))), .second, .val (.int (1 : Int32)), .val (.int (1 : Int32)), .unset, .unset, .unset] [])) _
      refine XS.iconst X168.here hx rfl (hb hby at_120) ?_
      show Steps p.tables e below (T168.setTop (mkF m 121 #[.val (.int a1), .val (.int b1), .val (.int c1), .val (.int v118), .val (.int v121), .val (.ref b125), .val (.int (own_del v121 c1)), .val (.long (((2 : Int64) * (v121.toInt64)) + (1 : Int64))), .second, .val (.int (1 : Int32)), .val (.int (1 : Int32)), .unset, .unset, .unset] [(.int (1 : Int32))])) _
      refine XS.goto X168.here hx rfl (pc0 := 121) (pc' := 125) rfl (hb hby at_121) (by decide) (by decide) ?_
      show Steps p.tables e below (T168.setTop (mkF m 125 #[.val (.int a1), .val (.int b1), .val (.int c1), .val (.int v118), .val (.int v121), .val (.ref b125), .val (.int (own_del v121 c1)), .val (.long (((2 : Int64) * (v121.toInt64)) + (1 : Int64))), .second, .val (.int (1 : Int32)), .val (.int (1 : Int32)), .unset, .unset, .unset] [(.int (1 : Int32))])) _
      refine XS.istore X168.here hx rfl (hb hby at_125) rfl (l' := #[.val (.int a1), .val (.int b1), .val (.int c1), .val (.int v118), .val (.int v121), .val (.ref b125), .val (.int (own_del v121 c1)), .val (.long (((2 : Int64) * (v121.toInt64)) + (1 : Int64))), .second, .val (.int (1 : Int32)), .val (.int (1 : Int32)), .val (.int (1 : Int32)), .unset, .unset]) rfl ?_
      show Steps p.tables e below (T168.setTop (mkF m 127 #[.val (.int a1), .val (.int b1), .val (.int c1), .val (.int v118), .val (.int v121), .val (.ref b125), .val (.int (own_del v121 c1)), .val (.long (((2 : Int64) * (v121.toInt64)) + (1 : Int64))), .second, .val (.int (1 : Int32)), .val (.int (1 : Int32)), .val (.int (1 : Int32)), .unset, .unset] [])) _
      refine XS.aload X168.here hx rfl (hb hby at_127) rfl rfl ?_
      show Steps p.tables e below (T168.setTop (mkF m 129 #[.val (.int a1), .val (.int b1), .val (.int c1), .val (.int v118), .val (.int v121), .val (.ref b125), .val (.int (own_del v121 c1)), .val (.long (((2 : Int64) * (v121.toInt64)) + (1 : Int64))), .second, .val (.int (1 : Int32)), .val (.int (1 : Int32)), .val (.int (1 : Int32)), .unset, .unset] [(.ref b125)])) _
      refine XS.iconst X168.here hx rfl (hb hby at_129) ?_
      show Steps p.tables e below (T168.setTop (mkF m 130 #[.val (.int a1), .val (.int b1), .val (.int c1), .val (.int v118), .val (.int v121), .val (.ref b125), .val (.int (own_del v121 c1)), .val (.long (((2 : Int64) * (v121.toInt64)) + (1 : Int64))), .second, .val (.int (1 : Int32)), .val (.int (1 : Int32)), .val (.int (1 : Int32)), .unset, .unset] [(.int (2 : Int32)), (.ref b125)])) _
      refine XS.iload X168.here hx rfl (hb hby at_130) rfl ?_
      show Steps p.tables e below (T168.setTop (mkF m 132 #[.val (.int a1), .val (.int b1), .val (.int c1), .val (.int v118), .val (.int v121), .val (.ref b125), .val (.int (own_del v121 c1)), .val (.long (((2 : Int64) * (v121.toInt64)) + (1 : Int64))), .second, .val (.int (1 : Int32)), .val (.int (1 : Int32)), .val (.int (1 : Int32)), .unset, .unset] [(.int v121), (.int (2 : Int32)), (.ref b125)])) _
      refine XS.imul X168.here hx rfl (hb hby at_132) rfl ?_
      show Steps p.tables e below (T168.setTop (mkF m 133 #[.val (.int a1), .val (.int b1), .val (.int c1), .val (.int v118), .val (.int v121), .val (.ref b125), .val (.int (own_del v121 c1)), .val (.long (((2 : Int64) * (v121.toInt64)) + (1 : Int64))), .second, .val (.int (1 : Int32)), .val (.int (1 : Int32)), .val (.int (1 : Int32)), .unset, .unset] [(.int ((2 : Int32) * v121)), (.ref b125)])) _
      refine XS.iconst X168.here hx rfl (hb hby at_133) ?_
      show Steps p.tables e below (T168.setTop (mkF m 134 #[.val (.int a1), .val (.int b1), .val (.int c1), .val (.int v118), .val (.int v121), .val (.ref b125), .val (.int (own_del v121 c1)), .val (.long (((2 : Int64) * (v121.toInt64)) + (1 : Int64))), .second, .val (.int (1 : Int32)), .val (.int (1 : Int32)), .val (.int (1 : Int32)), .unset, .unset] [(.int (1 : Int32)), (.int ((2 : Int32) * v121)), (.ref b125)])) _
      refine XS.iadd X168.here hx rfl (hb hby at_134) rfl ?_
      exact kt
    obtain ⟨cq170, kq170, q170a, q170b, q170c⟩ := isOf hZ e168 f150
    obtain ⟨_, _, ⟨T170, L170, k170, n170⟩, -, X170, ⟨Lc170, hQ170, l170, y170, z170⟩, st170⟩ := X168.virtualBack hx (y := (⟨"com/example/totality/totality/core/ReadyRound", "delivers", "(I)Z"⟩ : MethodName)) (z := (⟨"com/example/totality/totality/core/ReadyRound", "delivers", "(I)Z"⟩ : MethodName)) hown (mvT hZ (hw _ (List.mem_of_getElem? (i := 58) rfl))) (mvT hZ (hw _ (List.mem_of_getElem? (i := 59) rfl))) (notFace_of_selects (args := #[]) (mvT hZ (hw _ (List.mem_of_getElem? (i := 61) rfl)))) (mvT hZ (hw _ (List.mem_of_getElem? (i := 61) rfl))) (mvT hZ (hw _ (List.mem_of_getElem? (i := 60) rfl))) (by decide) (backOf (W := 0) (rm8 l Z a0 hw [] b125 (((2 : Int32) * v121) + (1 : Int32)) v121 h145 n0 z147 F146) hZ (hw _ (List.mem_of_getElem? (i := 62) rfl)) (hw _ (List.mem_of_getElem? (i := 3) rfl)) (by decide) (by decide)) q170a q170c (g := (mkF m 135 #[.val (.int a1), .val (.int b1), .val (.int c1), .val (.int v118), .val (.int v121), .val (.ref b125), .val (.int (own_del v121 c1)), .val (.long (((2 : Int64) * (v121.toInt64)) + (1 : Int64))), .second, .val (.int (1 : Int32)), .val (.int (1 : Int32)), .val (.int (1 : Int32)), .unset, .unset] [(.int (((2 : Int32) * v121) + (1 : Int32))), (.ref b125)])) rfl (by rw [hml]; rfl) (Steps.refl _) (argsL := [(.int (((2 : Int32) * v121) + (1 : Int32)))]) (rest := []) (lenOf pd_5 rfl) rfl (by show 2 * 0 + _ ≤ _; exact Nat.le_of_eq rfl) (hb hby at_135) (fun _ _ => ⟨rfl, e168, (by decide : 6 + 0 ≤ _), (by decide : 110 + 0 ≤ _)⟩)
    dsimp only [Pt.U, Pt.locs, Pt.cells, Pt.slots] at X170 l170 y170 z170 st170 hQ170
    subst l170 y170 z170
    obtain ⟨rfl, N170q, e170⟩ := hQ170
    have N170 := Fr.app N168 N170q
    have S171 : ∀ t, Steps p.tables e below (T170.setTop (mkF m 146 #[.val (.int a1), .val (.int b1), .val (.int c1), .val (.int v118), .val (.int v121), .val (.ref b125), .val (.int (own_del v121 c1)), .val (.long (((2 : Int64) * (v121.toInt64)) + (1 : Int64))), .second, .val (.int (1 : Int32)), .val (.int (1 : Int32)), .val (.int (1 : Int32)), .val (.int (own_del v121 (((2 : Int32) * v121) + (1 : Int32)))), .unset] [(.int (v118 - v121)), (.ref b125)])) t → Steps p.tables e below (T170.setTop (mkF m 138 #[.val (.int a1), .val (.int b1), .val (.int c1), .val (.int v118), .val (.int v121), .val (.ref b125), .val (.int (own_del v121 c1)), .val (.long (((2 : Int64) * (v121.toInt64)) + (1 : Int64))), .second, .val (.int (1 : Int32)), .val (.int (1 : Int32)), .val (.int (1 : Int32)), .unset, .unset] [(.int (own_del v121 (((2 : Int32) * v121) + (1 : Int32))))])) t := by
      intro t kt
      show Steps p.tables e below (T170.setTop (mkF m 138 #[.val (.int a1), .val (.int b1), .val (.int c1), .val (.int v118), .val (.int v121), .val (.ref b125), .val (.int (own_del v121 c1)), .val (.long (((2 : Int64) * (v121.toInt64)) + (1 : Int64))), .second, .val (.int (1 : Int32)), .val (.int (1 : Int32)), .val (.int (1 : Int32)), .unset, .unset] [(.int (own_del v121 (((2 : Int32) * v121) + (1 : Int32))))])) _
      refine XS.istore X170.here hx rfl (hb hby at_138) rfl (l' := #[.val (.int a1), .val (.int b1), .val (.int c1), .val (.int v118), .val (.int v121), .val (.ref b125), .val (.int (own_del v121 c1)), .val (.long (((2 : Int64) * (v121.toInt64)) + (1 : Int64))), .second, .val (.int (1 : Int32)), .val (.int (1 : Int32)), .val (.int (1 : Int32)), .val (.int (own_del v121 (((2 : Int32) * v121) + (1 : Int32)))), .unset]) rfl ?_
      show Steps p.tables e below (T170.setTop (mkF m 140 #[.val (.int a1), .val (.int b1), .val (.int c1), .val (.int v118), .val (.int v121), .val (.ref b125), .val (.int (own_del v121 c1)), .val (.long (((2 : Int64) * (v121.toInt64)) + (1 : Int64))), .second, .val (.int (1 : Int32)), .val (.int (1 : Int32)), .val (.int (1 : Int32)), .val (.int (own_del v121 (((2 : Int32) * v121) + (1 : Int32)))), .unset] [])) _
      refine XS.aload X170.here hx rfl (hb hby at_140) rfl rfl ?_
      show Steps p.tables e below (T170.setTop (mkF m 142 #[.val (.int a1), .val (.int b1), .val (.int c1), .val (.int v118), .val (.int v121), .val (.ref b125), .val (.int (own_del v121 c1)), .val (.long (((2 : Int64) * (v121.toInt64)) + (1 : Int64))), .second, .val (.int (1 : Int32)), .val (.int (1 : Int32)), .val (.int (1 : Int32)), .val (.int (own_del v121 (((2 : Int32) * v121) + (1 : Int32)))), .unset] [(.ref b125)])) _
      refine XS.iloadN X170.here hx rfl (hb hby at_142) rfl ?_
      show Steps p.tables e below (T170.setTop (mkF m 143 #[.val (.int a1), .val (.int b1), .val (.int c1), .val (.int v118), .val (.int v121), .val (.ref b125), .val (.int (own_del v121 c1)), .val (.long (((2 : Int64) * (v121.toInt64)) + (1 : Int64))), .second, .val (.int (1 : Int32)), .val (.int (1 : Int32)), .val (.int (1 : Int32)), .val (.int (own_del v121 (((2 : Int32) * v121) + (1 : Int32)))), .unset] [(.int v118), (.ref b125)])) _
      refine XS.iload X170.here hx rfl (hb hby at_143) rfl ?_
      show Steps p.tables e below (T170.setTop (mkF m 145 #[.val (.int a1), .val (.int b1), .val (.int c1), .val (.int v118), .val (.int v121), .val (.ref b125), .val (.int (own_del v121 c1)), .val (.long (((2 : Int64) * (v121.toInt64)) + (1 : Int64))), .second, .val (.int (1 : Int32)), .val (.int (1 : Int32)), .val (.int (1 : Int32)), .val (.int (own_del v121 (((2 : Int32) * v121) + (1 : Int32)))), .unset] [(.int v121), (.int v118), (.ref b125)])) _
      refine XS.isub X170.here hx rfl (hb hby at_145) rfl ?_
      exact kt
    obtain ⟨cq172, kq172, q172a, q172b, q172c⟩ := isOf hZ e170 f150
    obtain ⟨_, _, ⟨T172, L172, k172, n172⟩, -, X172, ⟨Lc172, hQ172, l172, y172, z172⟩, st172⟩ := X170.virtualBack hx (y := (⟨"com/example/totality/totality/core/ReadyRound", "delivers", "(I)Z"⟩ : MethodName)) (z := (⟨"com/example/totality/totality/core/ReadyRound", "delivers", "(I)Z"⟩ : MethodName)) hown (mvT hZ (hw _ (List.mem_of_getElem? (i := 58) rfl))) (mvT hZ (hw _ (List.mem_of_getElem? (i := 59) rfl))) (notFace_of_selects (args := #[]) (mvT hZ (hw _ (List.mem_of_getElem? (i := 61) rfl)))) (mvT hZ (hw _ (List.mem_of_getElem? (i := 61) rfl))) (mvT hZ (hw _ (List.mem_of_getElem? (i := 60) rfl))) (by decide) (backOf (W := 0) (rm8 l Z a0 hw [] b125 (v118 - v121) v121 h145 n0 z147 F146) hZ (hw _ (List.mem_of_getElem? (i := 62) rfl)) (hw _ (List.mem_of_getElem? (i := 3) rfl)) (by decide) (by decide)) q172a q172c (g := (mkF m 146 #[.val (.int a1), .val (.int b1), .val (.int c1), .val (.int v118), .val (.int v121), .val (.ref b125), .val (.int (own_del v121 c1)), .val (.long (((2 : Int64) * (v121.toInt64)) + (1 : Int64))), .second, .val (.int (1 : Int32)), .val (.int (1 : Int32)), .val (.int (1 : Int32)), .val (.int (own_del v121 (((2 : Int32) * v121) + (1 : Int32)))), .unset] [(.int (v118 - v121)), (.ref b125)])) rfl (by rw [hml]; rfl) (Steps.refl _) (argsL := [(.int (v118 - v121))]) (rest := []) (lenOf pd_5 rfl) rfl (by show 2 * 0 + _ ≤ _; exact Nat.le_of_eq rfl) (hb hby at_146) (fun _ _ => ⟨rfl, e170, (by decide : 6 + 0 ≤ _), (by decide : 110 + 0 ≤ _)⟩)
    dsimp only [Pt.U, Pt.locs, Pt.cells, Pt.slots] at X172 l172 y172 z172 st172 hQ172
    subst l172 y172 z172
    obtain ⟨rfl, N172q, e172⟩ := hQ172
    have N172 := Fr.app N170 N172q
    have S173 : ∀ t, Steps p.tables e below (T172.setTop (mkF m 181 #[.val (.int a1), .val (.int b1), .val (.int c1), .val (.int v118), .val (.int v121), .val (.ref b125), .val (.int (own_del v121 c1)), .val (.long (((2 : Int64) * (v121.toInt64)) + (1 : Int64))), .second, .val (.int (1 : Int32)), .val (.int (1 : Int32)), .val (.int (1 : Int32)), .val (.int (own_del v121 (((2 : Int32) * v121) + (1 : Int32)))), .val (.int (own_del v121 (v118 - v121)))] [(.int (1 : Int32))])) t → Steps p.tables e below (T172.setTop (mkF m 149 #[.val (.int a1), .val (.int b1), .val (.int c1), .val (.int v118), .val (.int v121), .val (.ref b125), .val (.int (own_del v121 c1)), .val (.long (((2 : Int64) * (v121.toInt64)) + (1 : Int64))), .second, .val (.int (1 : Int32)), .val (.int (1 : Int32)), .val (.int (1 : Int32)), .val (.int (own_del v121 (((2 : Int32) * v121) + (1 : Int32)))), .unset] [(.int (own_del v121 (v118 - v121)))])) t := by
      intro t kt
      show Steps p.tables e below (T172.setTop (mkF m 149 #[.val (.int a1), .val (.int b1), .val (.int c1), .val (.int v118), .val (.int v121), .val (.ref b125), .val (.int (own_del v121 c1)), .val (.long (((2 : Int64) * (v121.toInt64)) + (1 : Int64))), .second, .val (.int (1 : Int32)), .val (.int (1 : Int32)), .val (.int (1 : Int32)), .val (.int (own_del v121 (((2 : Int32) * v121) + (1 : Int32)))), .unset] [(.int (own_del v121 (v118 - v121)))])) _
      refine XS.istore X172.here hx rfl (hb hby at_149) rfl (l' := #[.val (.int a1), .val (.int b1), .val (.int c1), .val (.int v118), .val (.int v121), .val (.ref b125), .val (.int (own_del v121 c1)), .val (.long (((2 : Int64) * (v121.toInt64)) + (1 : Int64))), .second, .val (.int (1 : Int32)), .val (.int (1 : Int32)), .val (.int (1 : Int32)), .val (.int (own_del v121 (((2 : Int32) * v121) + (1 : Int32)))), .val (.int (own_del v121 (v118 - v121)))]) rfl ?_
      show Steps p.tables e below (T172.setTop (mkF m 151 #[.val (.int a1), .val (.int b1), .val (.int c1), .val (.int v118), .val (.int v121), .val (.ref b125), .val (.int (own_del v121 c1)), .val (.long (((2 : Int64) * (v121.toInt64)) + (1 : Int64))), .second, .val (.int (1 : Int32)), .val (.int (1 : Int32)), .val (.int (1 : Int32)), .val (.int (own_del v121 (((2 : Int32) * v121) + (1 : Int32)))), .val (.int (own_del v121 (v118 - v121)))] [])) _
      refine XS.iload X172.here hx rfl (hb hby at_151) rfl ?_
      show Steps p.tables e below (T172.setTop (mkF m 153 #[.val (.int a1), .val (.int b1), .val (.int c1), .val (.int v118), .val (.int v121), .val (.ref b125), .val (.int (own_del v121 c1)), .val (.long (((2 : Int64) * (v121.toInt64)) + (1 : Int64))), .second, .val (.int (1 : Int32)), .val (.int (1 : Int32)), .val (.int (1 : Int32)), .val (.int (own_del v121 (((2 : Int32) * v121) + (1 : Int32)))), .val (.int (own_del v121 (v118 - v121)))] [(.int (1 : Int32))])) _
      refine XS.ifNo X172.here hx rfl (hb hby at_153) rfl ((if0 _ _).trans (feq (by decide)).1) ?_
      show Steps p.tables e below (T172.setTop (mkF m 156 #[.val (.int a1), .val (.int b1), .val (.int c1), .val (.int v118), .val (.int v121), .val (.ref b125), .val (.int (own_del v121 c1)), .val (.long (((2 : Int64) * (v121.toInt64)) + (1 : Int64))), .second, .val (.int (1 : Int32)), .val (.int (1 : Int32)), .val (.int (1 : Int32)), .val (.int (own_del v121 (((2 : Int32) * v121) + (1 : Int32)))), .val (.int (own_del v121 (v118 - v121)))] [])) _
      refine XS.iload X172.here hx rfl (hb hby at_156) rfl ?_
      show Steps p.tables e below (T172.setTop (mkF m 158 #[.val (.int a1), .val (.int b1), .val (.int c1), .val (.int v118), .val (.int v121), .val (.ref b125), .val (.int (own_del v121 c1)), .val (.long (((2 : Int64) * (v121.toInt64)) + (1 : Int64))), .second, .val (.int (1 : Int32)), .val (.int (1 : Int32)), .val (.int (1 : Int32)), .val (.int (own_del v121 (((2 : Int32) * v121) + (1 : Int32)))), .val (.int (own_del v121 (v118 - v121)))] [(.int (1 : Int32))])) _
      refine XS.ifNo X172.here hx rfl (hb hby at_158) rfl ((if0 _ _).trans (feq (by decide)).1) ?_
      show Steps p.tables e below (T172.setTop (mkF m 161 #[.val (.int a1), .val (.int b1), .val (.int c1), .val (.int v118), .val (.int v121), .val (.ref b125), .val (.int (own_del v121 c1)), .val (.long (((2 : Int64) * (v121.toInt64)) + (1 : Int64))), .second, .val (.int (1 : Int32)), .val (.int (1 : Int32)), .val (.int (1 : Int32)), .val (.int (own_del v121 (((2 : Int32) * v121) + (1 : Int32)))), .val (.int (own_del v121 (v118 - v121)))] [])) _
      refine XS.iload X172.here hx rfl (hb hby at_161) rfl ?_
      show Steps p.tables e below (T172.setTop (mkF m 163 #[.val (.int a1), .val (.int b1), .val (.int c1), .val (.int v118), .val (.int v121), .val (.ref b125), .val (.int (own_del v121 c1)), .val (.long (((2 : Int64) * (v121.toInt64)) + (1 : Int64))), .second, .val (.int (1 : Int32)), .val (.int (1 : Int32)), .val (.int (1 : Int32)), .val (.int (own_del v121 (((2 : Int32) * v121) + (1 : Int32)))), .val (.int (own_del v121 (v118 - v121)))] [(.int (1 : Int32))])) _
      refine XS.ifNo X172.here hx rfl (hb hby at_163) rfl ((if0 _ _).trans (feq (by decide)).1) ?_
      show Steps p.tables e below (T172.setTop (mkF m 166 #[.val (.int a1), .val (.int b1), .val (.int c1), .val (.int v118), .val (.int v121), .val (.ref b125), .val (.int (own_del v121 c1)), .val (.long (((2 : Int64) * (v121.toInt64)) + (1 : Int64))), .second, .val (.int (1 : Int32)), .val (.int (1 : Int32)), .val (.int (1 : Int32)), .val (.int (own_del v121 (((2 : Int32) * v121) + (1 : Int32)))), .val (.int (own_del v121 (v118 - v121)))] [])) _
      refine XS.iload X172.here hx rfl (hb hby at_166) rfl ?_
      show Steps p.tables e below (T172.setTop (mkF m 168 #[.val (.int a1), .val (.int b1), .val (.int c1), .val (.int v118), .val (.int v121), .val (.ref b125), .val (.int (own_del v121 c1)), .val (.long (((2 : Int64) * (v121.toInt64)) + (1 : Int64))), .second, .val (.int (1 : Int32)), .val (.int (1 : Int32)), .val (.int (1 : Int32)), .val (.int (own_del v121 (((2 : Int32) * v121) + (1 : Int32)))), .val (.int (own_del v121 (v118 - v121)))] [(.int (own_del v121 (((2 : Int32) * v121) + (1 : Int32))))])) _
      refine XS.ifNo X172.here hx rfl (hb hby at_168) rfl ((if0 _ _).trans (feq (own_at hok)).1) ?_
      show Steps p.tables e below (T172.setTop (mkF m 171 #[.val (.int a1), .val (.int b1), .val (.int c1), .val (.int v118), .val (.int v121), .val (.ref b125), .val (.int (own_del v121 c1)), .val (.long (((2 : Int64) * (v121.toInt64)) + (1 : Int64))), .second, .val (.int (1 : Int32)), .val (.int (1 : Int32)), .val (.int (1 : Int32)), .val (.int (own_del v121 (((2 : Int32) * v121) + (1 : Int32)))), .val (.int (own_del v121 (v118 - v121)))] [])) _
      refine XS.iload X172.here hx rfl (hb hby at_171) rfl ?_
      show Steps p.tables e below (T172.setTop (mkF m 173 #[.val (.int a1), .val (.int b1), .val (.int c1), .val (.int v118), .val (.int v121), .val (.ref b125), .val (.int (own_del v121 c1)), .val (.long (((2 : Int64) * (v121.toInt64)) + (1 : Int64))), .second, .val (.int (1 : Int32)), .val (.int (1 : Int32)), .val (.int (1 : Int32)), .val (.int (own_del v121 (((2 : Int32) * v121) + (1 : Int32)))), .val (.int (own_del v121 (v118 - v121)))] [(.int (own_del v121 (v118 - v121)))])) _
      refine XS.ifNo X172.here hx rfl (hb hby at_173) rfl ((if0 _ _).trans (feq (own_suff hok)).1) ?_
      show Steps p.tables e below (T172.setTop (mkF m 176 #[.val (.int a1), .val (.int b1), .val (.int c1), .val (.int v118), .val (.int v121), .val (.ref b125), .val (.int (own_del v121 c1)), .val (.long (((2 : Int64) * (v121.toInt64)) + (1 : Int64))), .second, .val (.int (1 : Int32)), .val (.int (1 : Int32)), .val (.int (1 : Int32)), .val (.int (own_del v121 (((2 : Int32) * v121) + (1 : Int32)))), .val (.int (own_del v121 (v118 - v121)))] [])) _
      refine XS.iconst X172.here hx rfl (hb hby at_176) ?_
      show Steps p.tables e below (T172.setTop (mkF m 177 #[.val (.int a1), .val (.int b1), .val (.int c1), .val (.int v118), .val (.int v121), .val (.ref b125), .val (.int (own_del v121 c1)), .val (.long (((2 : Int64) * (v121.toInt64)) + (1 : Int64))), .second, .val (.int (1 : Int32)), .val (.int (1 : Int32)), .val (.int (1 : Int32)), .val (.int (own_del v121 (((2 : Int32) * v121) + (1 : Int32)))), .val (.int (own_del v121 (v118 - v121)))] [(.int (1 : Int32))])) _
      refine XS.goto X172.here hx rfl (pc0 := 177) (pc' := 181) rfl (hb hby at_177) (by decide) (by decide) ?_
      exact kt
    have C174 : ∀ t, Steps p.tables e below (T172.setTop (mkF m 181 #[.val (.int a1), .val (.int b1), .val (.int c1), .val (.int v118), .val (.int v121), .val (.ref b125), .val (.int (own_del v121 c1)), .val (.long (((2 : Int64) * (v121.toInt64)) + (1 : Int64))), .second, .val (.int (1 : Int32)), .val (.int (1 : Int32)), .val (.int (1 : Int32)), .val (.int (own_del v121 (((2 : Int32) * v121) + (1 : Int32)))), .val (.int (own_del v121 (v118 - v121)))] [(.int (1 : Int32))])) t → Steps p.tables e below (s₁.setTop (mkF m 0 #[.val (.int a1), .val (.int b1), .val (.int c1), .unset, .unset, .unset, .unset, .unset, .unset, .unset, .unset, .unset, .unset, .unset] [])) t := (fun t k => (S119 t (S120 t (S122 t (S123 t (S124 t (st125 t (S130 t (st131 t (S136 t (st137.trans (st145.trans (S148 t (st149.trans (S151 t (S153 t (S155 t (S165 t (st166.trans (S167 t (st168.trans (S169 t (st170.trans (S171 t (st172.trans (S173 t k))))))))))))))))))))))))))
    obtain ⟨fs, hr, hrun, hended, hW, hsame⟩ := X172.leave (v := some (.int (1 : Int32))) (fun h => by rw [Bd.returns] at h; cases h)
    refine ⟨_, _, pre0 _ (C174 _ ?_), hrun, hended, _, _, rfl, ?_, ⟨_, rfl⟩, hW, hsame.mono (by decide) (by decide)⟩
    · exact retN X172 hx (t := .boolean) Bd.returns (by simp) (hb hby at_181) hr
    · show Q_rm0 Z a1 b1 c1 h0 n0 _ T172.heap _
      rw [e172]
      exact ⟨rfl, N172⟩
set_option maxRecDepth 65536 in
set_option maxHeartbeats 40000000 in
theorem comes_1 {Post : Tables → Env → Array Value → State → Outcome → State → Prop} (hpost : ∀ tb e args s v u, (limb_1_1.after args s (.returned v) u = true ∧ limb_1_2.after args s (.returned v) u = true ∧ True) → FrameEnd s (.returned v) u (Jvm.fieldLocs frame_1_writes args s ++ Jvm.arrayLocs frame_1_arrays args s ++ Jvm.staticLocs frame_1_statics s) 24 320 → Post tb e args s (.returned v) u) :
    ArmFor flags0 classFile x code maxLocals ret World_1 tables_1 room_1 Calls_1 rest_1 Pre_1 Post := by
  intro l hfl _ _ p e ha hc hk s m args below hf hA hF happ hP
  obtain ⟨hcalls, hrest, hpre⟩ := hP
  obtain ⟨-, -, -, hnamed, -, -, -, hat⟩ := (Spec.applies_iff hf).mp happ
  obtain ⟨hg, hn⟩ := and_e (Cond.before_iff.mp (show (Jvm.Cond.and given_1 narrow_1).before args s = true from hpre))
  obtain ⟨gg1, gg2⟩ := and_e hg
  obtain ⟨gg3, gg4⟩ := and_e gg2
  obtain ⟨gg5, gg6⟩ := and_e gg4
  obtain ⟨w0, w1, w2, rfl⟩ : ∃ w0 w1 w2 : Value, args = #[w0, w1, w2] := by
    have hs : args.size = 3 := by simpa [Cond.value, given_1] using gg1
    obtain ⟨L⟩ := args
    match L, hs with
    | [w0, w1, w2], _ => exact ⟨w0, w1, w2, rfl⟩
  have hw := fun d (hd : d ∈ tables_1) => atoms_spec (ws := Jvm.Cond.code x code maxLocals ret :: tables_1) hat d (List.mem_cons_of_mem _ hd)
  have hfit : Fit s := fun {y c} hc i hi => by
    obtain ⟨ha, rfl⟩ := Array.getElem?_eq_some_iff.mp hc
    have q := List.all_eq_true.mp ((Array.all_eq_true_iff_forall_mem.mp hF) _ (Array.getElem_mem ha)) i (List.mem_range.mpr hi)
    simpa [Array.getElem?_eq_getElem hi] using q
  obtain ⟨i0, ei0⟩ := is_v gg3
  obtain rfl : w0 = (.int i0) := Option.some.inj ei0
  obtain ⟨i1, ei1⟩ := is_v gg5
  obtain rfl : w1 = (.int i1) := Option.some.inj ei1
  obtain ⟨i2, ei2⟩ := is_v gg6
  obtain rfl : w2 = (.int i2) := Option.some.inj ei2
  obtain ⟨n, o, h1, h2, h3, _, L, rfl, ⟨rfl, N⟩, hq⟩ := rm0 l s _ hw tables_1 i0 i1 i2 s.heap s.heap.size (Nat.le_refl _)  p e ha hc hk s m _ below hf ((Spec.applies_iff_loose hf).mp happ).1 ⟨rfl, State.Warmed39.refl s, rfl⟩ trivial
  refine ⟨n, _, h1, h2, h3, hpost _ _ _ _ _ _ ⟨Cond.after_iff.mpr rfl, Cond.after_iff.mpr (eq_i res_at (Term.int_eval (1)) rfl), trivial⟩ ⟨hq.1, hq.2.1, (hq.2.2.sift fun y hy => Or.inr (N y hy)).mono (by decide) (by decide)⟩⟩
theorem main_1_1 : Claimed_1_1 := comes_1 fun _ _ _ _ _ _ h hF => ⟨h.1, hF⟩
theorem main_1_2 : Claimed_1_2 := comes_1 fun _ _ _ _ _ _ h hF => ⟨h.2.1, hF⟩
end Jvm.Pilot.@@N@@
namespace Jvm.Pilot.@@N@@
open Jvm Jvm.ClassFile Sem Op Lib Jvm.Free Jvm.Stand Jvm.Pilot.@@N@@.Jvm.D
/-! MADE BY PROGRAM (witnessworld.py) out of the Statement's table words and the real class files: 16 classes; the members and pool entries that the words name. The judged class is class 1, her method 1. -/
namespace start1
open Jvm.ClassFile
def u (s : String) : CpInfo := .utf8 (stringToUtf16 s)
/-- a pool by its gaps: so many unusable entries, then the entry; so many at the end -/
def gap : Nat → List CpInfo → List CpInfo
  | 0, r => r
  | n + 1, r => .unusable :: gap n r
def poolList (es : List (Nat × CpInfo)) (last : Nat) : List CpInfo := es.foldr (fun e r => gap e.1 (e.2 :: r)) (gap last [])
def pool (es : List (Nat × CpInfo)) (last : Nat) : Array CpInfo := ⟨poolList es last⟩
def fileOf (pool : Array CpInfo) (this : Nat) (attrs : Array Attribute := #[]) (ms : Array MethodInfo := #[]) (fl : Nat := 33) (sup : Nat := 0) (ifs : Array Nat := #[]) (fds : Array FieldInfo := #[]) : ClassFile where
  minorVersion := 0
  majorVersion := 65
  constantPool := pool
  accessFlags := fl
  thisClass := this
  superClass := sup
  interfaces := ifs
  fields := fds
  methods := ms
  attributes := attrs
def plain (name : String) (sup : Option ClassId) : Class where
  name := name
  kind := .ordinary
  loader := none
  accessFlags := 33
  super := sup
  interfaces := #[]
  cf := none
  fields := #[]
  methods := #[]
  instanceTypes := #[]
  staticTypes := #[]
  resolved := #[]
  callSites := []
  init := .initialized
  statics := none
  mirror := none

def pool0 : Array CpInfo := pool [(5, u "<init>"), (0, u "()V"), (1, .class_ 10), (1, u "java/lang/Object")] 113

def k0c0 : Code := { maxStack := 0, maxLocals := 1, code := object_method_1_code, exceptionTable := #[], attributes := #[] }
def k0m0 : Method := { name := "<init>", desc := "()V", sig := { parameters := [], returnType := none }, accessFlags := 1, code := some k0c0 }
/-- java/lang/Object -/
def k0 : Class := { plain "java/lang/Object" none with
  accessFlags := 33
  interfaces := #[]
  cf := some (fileOf pool0 8 #[] #[{ accessFlags := 1, nameIndex := 5, descriptorIndex := 6, attributes := #[] }] 33 0 #[] #[])
  fields := #[]
  methods := #[k0m0]
  instanceTypes := #[]
  staticTypes := #[]
  resolved := Array.replicate 124 none
  statics := none }

def pool1 : Array CpInfo := pool [(2, .class_ 4), (1, u "java/lang/Object"), (0, u "<init>"), (0, u "()V"), (0, .integer 2147483647), (0, .class_ 9), (0, u "com/example/totality/totality/core/ReadyRound"), (0, .class_ 11), (0, u "com/example/totality/totality/core/ClusterSize"), (0, .methodref 10 13), (0, .nameAndType 5 14), (0, u "(II)V"), (0, .methodref 8 16), (0, .nameAndType 5 17), (0, u "(Lcom/example/totality/totality/core/ClusterSize;)V"), (0, .methodref 8 19), (0, .nameAndType 20 21), (0, u "delivers"), (0, u "(I)Z"), (0, .long 2), (1, .methodref 8 25), (0, .nameAndType 26 21), (0, u "readies"), (0, .class_ 28), (0, u "com/example/totality/totality/core/ReadyRoundDeliversPinLaw"), (2, u "law"), (0, u "(III)Z")] 3

def k1m0 : Method := { name := "<init>", desc := "()V", sig := { parameters := [], returnType := none }, accessFlags := 1, code := none }
def k1c1 : Code := { maxStack := 6, maxLocals := 14, code := code, exceptionTable := #[], attributes := #[] }
def k1m1 : Method := { name := "law", desc := "(III)Z", sig := { parameters := [.int, .int, .int], returnType := some .boolean }, accessFlags := 9, code := some k1c1 }
/-- com/example/totality/totality/core/ReadyRoundDeliversPinLaw -/
def k1 : Class := { plain "com/example/totality/totality/core/ReadyRoundDeliversPinLaw" (some 0) with
  accessFlags := 49
  interfaces := #[]
  cf := some (fileOf pool1 27 #[] #[{ accessFlags := 1, nameIndex := 5, descriptorIndex := 6, attributes := #[] }, { accessFlags := 9, nameIndex := 31, descriptorIndex := 32, attributes := #[] }] 49 2 #[] #[])
  fields := #[]
  methods := #[k1m0, k1m1]
  instanceTypes := #[]
  staticTypes := #[]
  resolved := Array.replicate 36 none
  statics := none }

def pool2 : Array CpInfo := pool [(1, .methodref 2 3), (0, .class_ 4), (0, .nameAndType 5 6), (0, u "java/lang/Object"), (0, u "<init>"), (0, u "()V"), (0, .methodref 8 9), (0, .class_ 10), (0, .nameAndType 11 12), (0, u "com/example/totality/totality/core/ClusterSize"), (0, u "faulty"), (0, u "()I"), (0, .fieldref 14 15), (0, .class_ 16), (0, .nameAndType 11 17), (0, u "com/example/totality/totality/core/ReadyRound"), (0, u "I"), (0, .class_ 19), (0, u "com/example/totality/totality/core/Votes"), (0, .methodref 8 21), (0, .nameAndType 22 12), (0, u "nodes"), (0, .methodref 18 24), (0, .nameAndType 5 25), (0, u "(I)V"), (0, .fieldref 14 27), (0, .nameAndType 28 29), (0, u "readies"), (0, u "Lcom/example/totality/totality/core/Votes;"), (7, u "(Lcom/example/totality/totality/core/ClusterSize;)V"), (2, u "(I)Z"), (1, u "delivers")] 3

def k2c0 : Code := { maxStack := 4, maxLocals := 2, code := prog_51_method_1_code, exceptionTable := #[], attributes := #[] }
def k2m0 : Method := { name := "<init>", desc := "(Lcom/example/totality/totality/core/ClusterSize;)V", sig := { parameters := [(.object "com/example/totality/totality/core/ClusterSize")], returnType := none }, accessFlags := 0, code := some k2c0 }
def k2c1 : Code := { maxStack := 2, maxLocals := 2, code := prog_51_method_3_code, exceptionTable := #[], attributes := #[] }
def k2m1 : Method := { name := "readies", desc := "(I)Z", sig := { parameters := [.int], returnType := some .boolean }, accessFlags := 0, code := some k2c1 }
def k2c2 : Code := { maxStack := 3, maxLocals := 2, code := prog_51_method_4_code, exceptionTable := #[], attributes := #[] }
def k2m2 : Method := { name := "delivers", desc := "(I)Z", sig := { parameters := [.int], returnType := some .boolean }, accessFlags := 0, code := some k2c2 }
/-- com/example/totality/totality/core/ReadyRound -/
def k2 : Class := { plain "com/example/totality/totality/core/ReadyRound" (some 0) with
  accessFlags := 48
  interfaces := #[]
  cf := some (fileOf pool2 14 #[] #[{ accessFlags := 0, nameIndex := 5, descriptorIndex := 37, attributes := #[] }, { accessFlags := 0, nameIndex := 28, descriptorIndex := 40, attributes := #[] }, { accessFlags := 0, nameIndex := 42, descriptorIndex := 40, attributes := #[] }] 48 2 #[] #[{ accessFlags := 18, nameIndex := 11, descriptorIndex := 17, attributes := #[] }, { accessFlags := 18, nameIndex := 28, descriptorIndex := 29, attributes := #[] }])
  fields := #[{ name := "faulty", type := .int, accessFlags := 18, slot := 0, constantValue := 0 }, { name := "readies", type := (.object "com/example/totality/totality/core/Votes"), accessFlags := 18, slot := 1, constantValue := 0 }]
  methods := #[k2m0, k2m1, k2m2]
  instanceTypes := #[.int, (.object "com/example/totality/totality/core/Votes")]
  staticTypes := #[]
  resolved := Array.replicate 46 none
  statics := none }

def pool3 : Array CpInfo := pool [(1, .methodref 2 3), (0, .class_ 4), (0, .nameAndType 5 6), (0, u "java/lang/Object"), (0, u "<init>"), (0, u "()V"), (0, .class_ 8), (0, u "java/lang/Record")] 13

def k3c0 : Code := { maxStack := 1, maxLocals := 1, code := jdk_30_method_1_code, exceptionTable := #[], attributes := #[] }
def k3m0 : Method := { name := "<init>", desc := "()V", sig := { parameters := [], returnType := none }, accessFlags := 4, code := some k3c0 }
/-- java/lang/Record -/
def k3 : Class := { plain "java/lang/Record" (some 0) with
  accessFlags := 1057
  interfaces := #[]
  cf := some (fileOf pool3 7 #[] #[{ accessFlags := 4, nameIndex := 5, descriptorIndex := 6, attributes := #[] }] 1057 2 #[] #[])
  fields := #[]
  methods := #[k3m0]
  instanceTypes := #[]
  staticTypes := #[]
  resolved := Array.replicate 22 none
  statics := none }

def pool4 : Array CpInfo := pool [(1, .methodref 2 3), (0, .class_ 4), (0, .nameAndType 5 6), (0, u "java/lang/Record"), (0, u "<init>"), (0, u "()V"), (0, .class_ 8), (0, u "com/example/totality/totality/core/ClusterSize"), (10, .long 3), (4, .fieldref 7 25), (0, .nameAndType 26 27), (0, u "nodes"), (0, u "I"), (0, .fieldref 7 29), (0, .nameAndType 30 27), (0, u "faulty"), (2, u "(II)V"), (15, u "MAX_NODES"), (9, u "()I")] 39

def k4c0 : Code := { maxStack := 4, maxLocals := 3, code := prog_20_method_1_code, exceptionTable := #[], attributes := #[] }
def k4m0 : Method := { name := "<init>", desc := "(II)V", sig := { parameters := [.int, .int], returnType := none }, accessFlags := 1, code := some k4c0 }
def k4c1 : Code := { maxStack := 1, maxLocals := 1, code := prog_20_method_8_code, exceptionTable := #[], attributes := #[] }
def k4m1 : Method := { name := "nodes", desc := "()I", sig := { parameters := [], returnType := some .int }, accessFlags := 1, code := some k4c1 }
def k4c2 : Code := { maxStack := 1, maxLocals := 1, code := prog_20_method_9_code, exceptionTable := #[], attributes := #[] }
def k4m2 : Method := { name := "faulty", desc := "()I", sig := { parameters := [], returnType := some .int }, accessFlags := 1, code := some k4c2 }
/-- com/example/totality/totality/core/ClusterSize -/
def k4 : Class := { plain "com/example/totality/totality/core/ClusterSize" (some 3) with
  accessFlags := 49
  interfaces := #[]
  cf := some (fileOf pool4 7 #[] #[{ accessFlags := 1, nameIndex := 5, descriptorIndex := 33, attributes := #[] }, { accessFlags := 1, nameIndex := 26, descriptorIndex := 59, attributes := #[] }, { accessFlags := 1, nameIndex := 30, descriptorIndex := 59, attributes := #[] }] 49 2 #[] #[{ accessFlags := 18, nameIndex := 26, descriptorIndex := 27, attributes := #[] }, { accessFlags := 18, nameIndex := 30, descriptorIndex := 27, attributes := #[] }, { accessFlags := 25, nameIndex := 49, descriptorIndex := 27, attributes := #[] }])
  fields := #[{ name := "nodes", type := .int, accessFlags := 18, slot := 0, constantValue := 0 }, { name := "faulty", type := .int, accessFlags := 18, slot := 1, constantValue := 0 }, { name := "MAX_NODES", type := .int, accessFlags := 25, slot := 0, constantValue := 0 }]
  methods := #[k4m0, k4m1, k4m2]
  instanceTypes := #[.int, .int]
  staticTypes := #[.int]
  resolved := Array.replicate 99 none
  statics := none }

def pool5 : Array CpInfo := pool [(1, .methodref 2 3), (0, .class_ 4), (0, .nameAndType 5 6), (0, u "java/lang/Object"), (0, u "<init>"), (0, u "()V"), (0, .class_ 8), (0, u "com/example/totality/totality/core/Digest"), (0, .fieldref 10 11), (0, .class_ 12), (0, .nameAndType 13 14), (0, u "com/example/totality/totality/core/Votes"), (0, u "votedFor"), (0, u "[Lcom/example/totality/totality/core/Digest;"), (0, .fieldref 10 16), (0, .nameAndType 17 18), (0, u "counts"), (0, u "[I"), (0, .fieldref 10 20), (0, .nameAndType 21 22), (0, u "cast"), (0, u "[Z"), (2, u "distinct"), (0, u "I"), (18, u "(I)V")] 7

def k5c0 : Code := { maxStack := 2, maxLocals := 2, code := prog_59_method_1_code, exceptionTable := #[], attributes := #[] }
def k5m0 : Method := { name := "<init>", desc := "(I)V", sig := { parameters := [.int], returnType := none }, accessFlags := 0, code := some k5c0 }
/-- com/example/totality/totality/core/Votes -/
def k5 : Class := { plain "com/example/totality/totality/core/Votes" (some 0) with
  accessFlags := 48
  interfaces := #[]
  cf := some (fileOf pool5 10 #[] #[{ accessFlags := 0, nameIndex := 5, descriptorIndex := 45, attributes := #[] }] 48 2 #[] #[{ accessFlags := 18, nameIndex := 21, descriptorIndex := 22, attributes := #[] }, { accessFlags := 2, nameIndex := 13, descriptorIndex := 14, attributes := #[] }, { accessFlags := 2, nameIndex := 17, descriptorIndex := 18, attributes := #[] }, { accessFlags := 2, nameIndex := 25, descriptorIndex := 26, attributes := #[] }])
  fields := #[{ name := "cast", type := (.array .boolean), accessFlags := 18, slot := 0, constantValue := 0 }, { name := "votedFor", type := (.array (.object "com/example/totality/totality/core/Digest")), accessFlags := 2, slot := 1, constantValue := 0 }, { name := "counts", type := (.array .int), accessFlags := 2, slot := 2, constantValue := 0 }, { name := "distinct", type := .int, accessFlags := 2, slot := 3, constantValue := 0 }]
  methods := #[k5m0]
  instanceTypes := #[(.array .boolean), (.array (.object "com/example/totality/totality/core/Digest")), (.array .int), .int]
  staticTypes := #[]
  resolved := Array.replicate 53 none
  statics := none }

def pool6 : Array CpInfo := pool [(2, .class_ 4), (1, u "java/lang/Object"), (3, .class_ 10), (1, u "com/example/totality/totality/core/Digest"), (0, u "bytes"), (0, u "[B"), (8, u "hash"), (0, u "I"), (78, u "BYTES")] 22

/-- com/example/totality/totality/core/Digest -/
def k6 : Class := { plain "com/example/totality/totality/core/Digest" (some 0) with
  accessFlags := 49
  interfaces := #[]
  cf := some (fileOf pool6 8 #[] #[] 49 2 #[] #[{ accessFlags := 25, nameIndex := 101, descriptorIndex := 22, attributes := #[] }, { accessFlags := 18, nameIndex := 11, descriptorIndex := 12, attributes := #[] }, { accessFlags := 18, nameIndex := 21, descriptorIndex := 22, attributes := #[] }])
  fields := #[{ name := "BYTES", type := .int, accessFlags := 25, slot := 0, constantValue := 0 }, { name := "bytes", type := (.array .byte), accessFlags := 18, slot := 0, constantValue := 0 }, { name := "hash", type := .int, accessFlags := 18, slot := 1, constantValue := 0 }]
  methods := #[]
  instanceTypes := #[(.array .byte), .int]
  staticTypes := #[.int]
  resolved := Array.replicate 124 none
  statics := none }

def pool7 : Array CpInfo := pool [(1, u "java/lang/Cloneable"), (0, .class_ 1), (0, u "java/lang/Object"), (0, .class_ 3)] 3

/-- java/lang/Cloneable -/
def k7 : Class := { plain "java/lang/Cloneable" (some 0) with
  accessFlags := 1537
  interfaces := #[]
  cf := some (fileOf pool7 2 #[] #[] 1537 4 #[] #[])
  fields := #[]
  methods := #[]
  instanceTypes := #[]
  staticTypes := #[]
  resolved := Array.replicate 8 none
  statics := none }

def pool8 : Array CpInfo := pool [(1, u "java/io/Serializable"), (0, .class_ 1), (0, u "java/lang/Object"), (0, .class_ 3)] 3

/-- java/io/Serializable -/
def k8 : Class := { plain "java/io/Serializable" (some 0) with
  accessFlags := 1537
  interfaces := #[]
  cf := some (fileOf pool8 2 #[] #[] 1537 4 #[] #[])
  fields := #[]
  methods := #[]
  instanceTypes := #[]
  staticTypes := #[]
  resolved := Array.replicate 8 none
  statics := none }

/-- the primitive boolean -/
def k9 : Class := { plain "boolean" none with kind := .primitive 'Z', accessFlags := 0x411 }
/-- [Z -/
def k10 : Class := { plain "[Z" (some 0) with kind := .array 9 .boolean, interfaces := #[7, 8], accessFlags := 1041 }

/-- the primitive byte -/
def k11 : Class := { plain "byte" none with kind := .primitive 'B', accessFlags := 0x411 }
/-- [B -/
def k12 : Class := { plain "[B" (some 0) with kind := .array 11 .byte, interfaces := #[7, 8], accessFlags := 1041 }

/-- the primitive int -/
def k13 : Class := { plain "int" none with kind := .primitive 'I', accessFlags := 0x411 }
/-- [I -/
def k14 : Class := { plain "[I" (some 0) with kind := .array 13 .int, interfaces := #[7, 8], accessFlags := 1041 }

/-- [Lcom/example/totality/totality/core/Digest; -/
def k15 : Class := { plain "[Lcom/example/totality/totality/core/Digest;" (some 0) with kind := .array 6 (.object "com/example/totality/totality/core/Digest"), interfaces := #[7, 8], accessFlags := 1041 }

def heap : Heap := #[]
def classes : Array Class := #[k0, k1, k2, k3, k4, k5, k6, k7, k8, k9, k10, k11, k12, k13, k14, k15]
def interned : List (Array UInt16 × Addr) := []
def slotsUsed : Nat := 0
def theMethod : MethodId := ⟨1, 1⟩
def args0 : Array Value := #[.int 5, .int 7, .int 9]
def aboutOver (below : List Frame) : State where
  vm := { classes := classes, interned := interned.toArray }
  heap := heap
  slotsUsed := slotsUsed
  threads := #[{ frames := .invoking theMethod args0 :: below }]
def below0 : List Frame := [.native { method := ⟨0, 0⟩, args := #[] }]
def about1 : State := aboutOver below0
def p0 : Program := .bare "" "" ""
def e0 : Env := launch0.env 0 0 0
theorem w_frames : about1.frames = Frame.invoking theMethod args0 :: below0 := rfl
set_option maxRecDepth 65536 in
theorem w_args : argsFit about1.vm theMethod args0 = true := by decide +kernel
set_option maxRecDepth 65536 in
theorem w_heap : heapFits about1 = true := by decide +kernel
set_option maxRecDepth 65536 in
theorem w_runnable : about1.curStatus? = some .runnable := by decide +kernel
set_option maxRecDepth 65536 in
theorem w_alone : about1.alone = true := by decide +kernel
set_option maxRecDepth 65536 in
theorem w_named : about1.methodNamed? x = some theMethod := by decide +kernel
set_option maxRecDepth 65536 in
theorem w_hears : about1.hears theMethod below0 = true := by decide +kernel
set_option maxRecDepth 65536 in
theorem w_ripe : about1.ripe theMethod args0 below0 = true := by decide +kernel
theorem w_running : about1.status = .running := rfl
set_option maxRecDepth 65536 in
theorem w_room : about1.hasRoom e0.platform room_1 = true :=
  launch0.hasRoom_least _ room_1 (by decide +kernel) (by decide +kernel) (by decide +kernel) (by decide +kernel) (by decide +kernel) (by decide +kernel)
theorem allAtoms_all (ts : List Jvm.Cond) (a : Array Jvm.Value) (st : Jvm.State) : (allAtoms ts).before a st = ts.all (fun c => c.before a st) := by
  induction ts with
  | nil => rfl
  | cons c t ih =>
    show (Jvm.Cond.and c (allAtoms t)).before a st = _
    rw [Jvm.Cond.before_and, ih, List.all_cons]
def words1 : List Jvm.Cond := Jvm.Cond.code x code maxLocals ret :: tables_1
/-- a 'code' word, met by the world's own term for the bytes: nothing is compared byte by byte -/
theorem code_word {y : MethodName} {bytes : ByteArray} {mx : Nat} {rt : Option FieldType} {a : Array Value} {s : State} {m : MethodId} {meth : Method} {c : Code} (h1 : s.methodNamed? y = some m) (h2 : s.vm.method? m = some meth) (h3 : meth.code = some c) (h4 : c.code = bytes)
    (h5 : (c.maxLocals == mx && c.exceptionTable.isEmpty && decide (c.maxStack ≤ mostOperands) && decide (meth.sig.returnType = rt) && !meth.locks && decide (parseMethodDescriptor y.desc = some meth.sig)) = true) : (Jvm.Cond.code y bytes mx rt).before a s = true := by
  simp only [Bool.and_eq_true, beq_iff_eq, Bool.not_eq_true', decide_eq_true_eq] at h5
  obtain ⟨⟨⟨⟨⟨g1, g2⟩, g3⟩, g4⟩, g5⟩, g6⟩ := h5
  simp [Cond.before, Cond.holds, Cond.value, h1, h2, h3, h4, g1, g2, g3, g4, g5, g6]
def isCode : Jvm.Cond → Bool
  | .code _ _ _ _ => true
  | _ => false
theorem all_split {L : List Jvm.Cond} {P : Jvm.Cond → Bool} (h1 : L.all (fun c => isCode c || P c) = true) (h2 : ∀ c ∈ L.filter isCode, P c = true) : L.all P = true := by
  refine List.all_eq_true.mpr fun c hc => ?_
  have h := List.all_eq_true.mp h1 c hc
  rcases Bool.eq_false_or_eq_true (isCode c) with hi | hi
  · exact h2 c (List.mem_filter.mpr ⟨hc, hi⟩)
  · simpa [hi] using h
set_option maxRecDepth 65536 in
theorem w_c0 : (Jvm.Cond.code x code maxLocals ret).before args0 about1 = true := code_word (m := ⟨1, 1⟩) (meth := k1m1) (c := k1c1) (by decide +kernel) rfl rfl rfl (by decide +kernel)
set_option maxRecDepth 65536 in
theorem w_c1 : (Jvm.Cond.code ({ cls := "com/example/totality/totality/core/ClusterSize", name := "<init>", desc := "(II)V" } : Jvm.MethodName) prog_20_method_1_code (3 : Nat) (Option.none : Option Jvm.ClassFile.FieldType)).before args0 about1 = true := code_word (m := ⟨4, 0⟩) (meth := k4m0) (c := k4c0) (by decide +kernel) rfl rfl rfl (by decide +kernel)
set_option maxRecDepth 65536 in
theorem w_c2 : (Jvm.Cond.code ({ cls := "java/lang/Record", name := "<init>", desc := "()V" } : Jvm.MethodName) jdk_30_method_1_code (1 : Nat) (Option.none : Option Jvm.ClassFile.FieldType)).before args0 about1 = true := code_word (m := ⟨3, 0⟩) (meth := k3m0) (c := k3c0) (by decide +kernel) rfl rfl rfl (by decide +kernel)
set_option maxRecDepth 65536 in
theorem w_c3 : (Jvm.Cond.code ({ cls := "java/lang/Object", name := "<init>", desc := "()V" } : Jvm.MethodName) object_method_1_code (1 : Nat) (Option.none : Option Jvm.ClassFile.FieldType)).before args0 about1 = true := code_word (m := ⟨0, 0⟩) (meth := k0m0) (c := k0c0) (by decide +kernel) rfl rfl rfl (by decide +kernel)
set_option maxRecDepth 65536 in
theorem w_c4 : (Jvm.Cond.code ({ cls := "com/example/totality/totality/core/ReadyRound", name := "<init>", desc := "(Lcom/example/totality/totality/core/ClusterSize;)V" } : Jvm.MethodName) prog_51_method_1_code (2 : Nat) (Option.none : Option Jvm.ClassFile.FieldType)).before args0 about1 = true := code_word (m := ⟨2, 0⟩) (meth := k2m0) (c := k2c0) (by decide +kernel) rfl rfl rfl (by decide +kernel)
set_option maxRecDepth 65536 in
theorem w_c5 : (Jvm.Cond.code ({ cls := "com/example/totality/totality/core/ClusterSize", name := "faulty", desc := "()I" } : Jvm.MethodName) prog_20_method_9_code (1 : Nat) (Option.some Jvm.ClassFile.FieldType.int)).before args0 about1 = true := code_word (m := ⟨4, 2⟩) (meth := k4m2) (c := k4c2) (by decide +kernel) rfl rfl rfl (by decide +kernel)
set_option maxRecDepth 65536 in
theorem w_c6 : (Jvm.Cond.code ({ cls := "com/example/totality/totality/core/ClusterSize", name := "nodes", desc := "()I" } : Jvm.MethodName) prog_20_method_8_code (1 : Nat) (Option.some Jvm.ClassFile.FieldType.int)).before args0 about1 = true := code_word (m := ⟨4, 1⟩) (meth := k4m1) (c := k4c1) (by decide +kernel) rfl rfl rfl (by decide +kernel)
set_option maxRecDepth 65536 in
theorem w_c7 : (Jvm.Cond.code ({ cls := "com/example/totality/totality/core/Votes", name := "<init>", desc := "(I)V" } : Jvm.MethodName) prog_59_method_1_code (2 : Nat) (Option.none : Option Jvm.ClassFile.FieldType)).before args0 about1 = true := code_word (m := ⟨5, 0⟩) (meth := k5m0) (c := k5c0) (by decide +kernel) rfl rfl rfl (by decide +kernel)
set_option maxRecDepth 65536 in
theorem w_c8 : (Jvm.Cond.code ({ cls := "com/example/totality/totality/core/ReadyRound", name := "delivers", desc := "(I)Z" } : Jvm.MethodName) prog_51_method_4_code (2 : Nat) (Option.some Jvm.ClassFile.FieldType.boolean)).before args0 about1 = true := code_word (m := ⟨2, 2⟩) (meth := k2m2) (c := k2c2) (by decide +kernel) rfl rfl rfl (by decide +kernel)
set_option maxRecDepth 65536 in
theorem w_c9 : (Jvm.Cond.code ({ cls := "com/example/totality/totality/core/ReadyRound", name := "readies", desc := "(I)Z" } : Jvm.MethodName) prog_51_method_3_code (2 : Nat) (Option.some Jvm.ClassFile.FieldType.boolean)).before args0 about1 = true := code_word (m := ⟨2, 1⟩) (meth := k2m1) (c := k2c1) (by decide +kernel) rfl rfl rfl (by decide +kernel)
def codes1 : List Jvm.Cond := [Jvm.Cond.code x code maxLocals ret, Jvm.Cond.code ({ cls := "com/example/totality/totality/core/ClusterSize", name := "<init>", desc := "(II)V" } : Jvm.MethodName) prog_20_method_1_code (3 : Nat) (Option.none : Option Jvm.ClassFile.FieldType), Jvm.Cond.code ({ cls := "java/lang/Record", name := "<init>", desc := "()V" } : Jvm.MethodName) jdk_30_method_1_code (1 : Nat) (Option.none : Option Jvm.ClassFile.FieldType), Jvm.Cond.code ({ cls := "java/lang/Object", name := "<init>", desc := "()V" } : Jvm.MethodName) object_method_1_code (1 : Nat) (Option.none : Option Jvm.ClassFile.FieldType), Jvm.Cond.code ({ cls := "com/example/totality/totality/core/ReadyRound", name := "<init>", desc := "(Lcom/example/totality/totality/core/ClusterSize;)V" } : Jvm.MethodName) prog_51_method_1_code (2 : Nat) (Option.none : Option Jvm.ClassFile.FieldType), Jvm.Cond.code ({ cls := "com/example/totality/totality/core/ClusterSize", name := "faulty", desc := "()I" } : Jvm.MethodName) prog_20_method_9_code (1 : Nat) (Option.some Jvm.ClassFile.FieldType.int), Jvm.Cond.code ({ cls := "com/example/totality/totality/core/ClusterSize", name := "nodes", desc := "()I" } : Jvm.MethodName) prog_20_method_8_code (1 : Nat) (Option.some Jvm.ClassFile.FieldType.int), Jvm.Cond.code ({ cls := "com/example/totality/totality/core/Votes", name := "<init>", desc := "(I)V" } : Jvm.MethodName) prog_59_method_1_code (2 : Nat) (Option.none : Option Jvm.ClassFile.FieldType), Jvm.Cond.code ({ cls := "com/example/totality/totality/core/ReadyRound", name := "delivers", desc := "(I)Z" } : Jvm.MethodName) prog_51_method_4_code (2 : Nat) (Option.some Jvm.ClassFile.FieldType.boolean), Jvm.Cond.code ({ cls := "com/example/totality/totality/core/ReadyRound", name := "readies", desc := "(I)Z" } : Jvm.MethodName) prog_51_method_3_code (2 : Nat) (Option.some Jvm.ClassFile.FieldType.boolean)]
set_option maxRecDepth 65536 in
theorem codes_eq : words1.filter isCode = codes1 := rfl
theorem w_codes : ∀ c ∈ words1.filter isCode, c.before args0 about1 = true := by
  rw [codes_eq]
  intro c hc
  simp only [codes1, List.mem_cons, List.not_mem_nil, or_false] at hc
  rcases hc with rfl | rfl | rfl | rfl | rfl | rfl | rfl | rfl | rfl | rfl
  · exact w_c0
  · exact w_c1
  · exact w_c2
  · exact w_c3
  · exact w_c4
  · exact w_c5
  · exact w_c6
  · exact w_c7
  · exact w_c8
  · exact w_c9
set_option maxRecDepth 65536 in
theorem w_t1 : (words1.take 24).all (fun c => isCode c || c.before args0 about1) = true := by decide +kernel
set_option maxRecDepth 65536 in
theorem w_t2 : ((words1.drop 24).take 24).all (fun c => isCode c || c.before args0 about1) = true := by decide +kernel
set_option maxRecDepth 65536 in
theorem w_t3 : ((words1.drop 24).drop 24).all (fun c => isCode c || c.before args0 about1) = true := by decide +kernel
theorem w_tables : (allAtoms (Jvm.Cond.code x code maxLocals ret :: tables_1)).before args0 about1 = true := by
  rw [allAtoms_all]
  show words1.all (fun c => c.before args0 about1) = true
  refine all_split ?_ w_codes
  rw [← List.take_append_drop 24 words1, List.all_append, w_t1, ← List.take_append_drop 24 (words1.drop 24), List.all_append, w_t2, w_t3]
  rfl
set_option maxRecDepth 65536 in
theorem w_case : (Jvm.Cond.and given_1 narrow_1).before args0 about1 = true := by decide +kernel
theorem w_applies : (headSpec (Jvm.Cond.code x code maxLocals ret :: tables_1) room_1).applies x e0.platform about1 = true :=
  (Spec.applies_iff w_frames).mpr ⟨w_running, w_runnable, w_alone, w_named, w_hears, w_ripe, w_room, w_tables⟩
theorem atStart : AtStart classFile x code maxLocals ret World_1 tables_1 room_1 Calls_1 rest_1 Pre_1 launch0 p0 e0 about1 theMethod args0 below0 :=
  ⟨lists_1, trivial, launch0.admits_env _ _ _, launch0.least_env, fairChoices_fair.cas, fairChoices_fair.clock, w_frames, w_args, w_heap, w_applies, trivial, trivial, w_case⟩
end start1
theorem witness_1 : WitnessClaimed_1 := ⟨start1.p0, start1.e0, start1.about1, start1.theMethod, start1.args0, start1.below0, start1.atStart⟩
end Jvm.Pilot.@@N@@
