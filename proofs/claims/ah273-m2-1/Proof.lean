import JvmDerived
import JvmDerived.Pilot.@@N@@Statement
import JvmDerived.Pilot.@@N@@Code
set_option linter.unusedVariables false
set_option linter.unusedSimpArgs false
namespace Jvm.RoadKit
theorem own_add32 {a b : Int32} (h1 : -2147483648 ≤ a.toInt + b.toInt) (h2 : a.toInt + b.toInt < 2147483648) : (a + b).toInt = a.toInt + b.toInt := by
  rw [Int32.toInt_add]; exact Int.bmod_eq_of_le (by omega) (by omega)
theorem own_sub32 {a b : Int32} (h1 : -2147483648 ≤ a.toInt - b.toInt) (h2 : a.toInt - b.toInt < 2147483648) : (a - b).toInt = a.toInt - b.toInt := by
  rw [Int32.toInt_sub]; exact Int.bmod_eq_of_le (by omega) (by omega)
theorem own_mul32 {a b : Int32} (h1 : -2147483648 ≤ a.toInt * b.toInt) (h2 : a.toInt * b.toInt < 2147483648) : (a * b).toInt = a.toInt * b.toInt := by
  rw [Int32.toInt_mul]; exact Int.bmod_eq_of_le (by omega) (by omega)
theorem own_add64 {a b : Int64} (h1 : -9223372036854775808 ≤ a.toInt + b.toInt) (h2 : a.toInt + b.toInt < 9223372036854775808) : (a + b).toInt = a.toInt + b.toInt := by
  rw [Int64.toInt_add]; exact Int.bmod_eq_of_le (by omega) (by omega)
theorem own_sub64 {a b : Int64} (h1 : -9223372036854775808 ≤ a.toInt - b.toInt) (h2 : a.toInt - b.toInt < 9223372036854775808) : (a - b).toInt = a.toInt - b.toInt := by
  rw [Int64.toInt_sub]; exact Int.bmod_eq_of_le (by omega) (by omega)
theorem own_mul64 {a b : Int64} (h1 : -9223372036854775808 ≤ a.toInt * b.toInt) (h2 : a.toInt * b.toInt < 9223372036854775808) : (a * b).toInt = a.toInt * b.toInt := by
  rw [Int64.toInt_mul]; exact Int.bmod_eq_of_le (by omega) (by omega)
/-- a mask that isn't negative -/
theorem own_mask32 (x k : Int32) (hk : 0 ≤ k.toInt) : 0 ≤ (x &&& k).toInt ∧ (x &&& k).toInt ≤ k.toInt := by
  have hk' : k.toBitVec.toNat < 2 ^ 31 := by
    have := k.toBitVec.isLt
    have e : k.toInt = k.toBitVec.toInt := rfl
    rw [e, BitVec.toInt_eq_toNat_cond] at hk
    split at hk <;> omega
  have h1 : (x &&& k).toInt = (x.toBitVec &&& k.toBitVec).toInt := rfl
  have h2 : (x.toBitVec &&& k.toBitVec).toNat ≤ k.toBitVec.toNat := by rw [BitVec.toNat_and]; exact Nat.and_le_right
  have e : k.toInt = k.toBitVec.toInt := rfl
  rw [h1, e, BitVec.toInt_eq_toNat_of_lt (by omega), BitVec.toInt_eq_toNat_of_lt (by omega)]; omega
theorem own_mask64 (x k : Int64) (hk : 0 ≤ k.toInt) : 0 ≤ (x &&& k).toInt ∧ (x &&& k).toInt ≤ k.toInt := by
  have hk' : k.toBitVec.toNat < 2 ^ 63 := by
    have := k.toBitVec.isLt
    have e : k.toInt = k.toBitVec.toInt := rfl
    rw [e, BitVec.toInt_eq_toNat_cond] at hk
    split at hk <;> omega
  have h1 : (x &&& k).toInt = (x.toBitVec &&& k.toBitVec).toInt := rfl
  have h2 : (x.toBitVec &&& k.toBitVec).toNat ≤ k.toBitVec.toNat := by rw [BitVec.toNat_and]; exact Nat.and_le_right
  have e : k.toInt = k.toBitVec.toInt := rfl
  rw [h1, e, BitVec.toInt_eq_toNat_of_lt (by omega), BitVec.toInt_eq_toNat_of_lt (by omega)]; omega
end Jvm.RoadKit
namespace Jvm.RoadKit
open Sem ClassFile Op Lib Jvm.Stand Jvm.Free Jvm.LawKit
section Own
variable {p : Program} {l : Launch} {e : Env} {R : Room} {s : State} {m : MethodId} {args : Array Value} {below : List Frame} {meth : Method} {c : Code} {T : State} {locs : List Loc} {cells slots : Nat} {Z : State} {h h' : Heap} {a b : Addr} {ty : FieldType} {n : Nat} {f f' : Nat → Value} {sl : Nat} {v : Value} {ws : List Addr}
/-- an array of n places, place i holds f i -/
def ArF (Z : State) (h : Heap) (a : Addr) (ty : FieldType) (n : Nat) (f : Nat → Value) : Prop := ∃ c : Cell, Arr Z h a c ty ∧ c.slots.size = n ∧ n < 2 ^ 31 ∧ ∀ i, i < n → c.slots[i]? = some (f i)
theorem ArF.lt (F : ArF Z h a ty n f) : a < h.size := by obtain ⟨c, A, -⟩ := F; exact A.lt
theorem ArF.ext (F : ArF Z h a ty n f) (E : Ext h h') : ArF Z h' a ty n f := by obtain ⟨c, A, r⟩ := F; exact ⟨c, A.ext E, r⟩
theorem ArF.other (F : ArF Z h a ty n f) (W : Wr h h' b sl v) (q : a ≠ b) : ArF Z h' a ty n f := by obtain ⟨c, A, r⟩ := F; exact ⟨c, A.other W q, r⟩
theorem ArF.keep (F : ArF Z h a ty n f) (K : Keep h h' ws) (q : a ∉ ws) : ArF Z h' a ty n f := by obtain ⟨c, A, r⟩ := F; exact ⟨c, ⟨K.2.1 a c A.1 q, A.2⟩, r⟩
theorem ArF.congr (F : ArF Z h a ty n f) (q : ∀ i, i < n → f i = f' i) : ArF Z h a ty n f' := by obtain ⟨c, A, r1, r2, r3⟩ := F; exact ⟨c, A, r1, r2, fun i hi => by rw [← q i hi]; exact r3 i hi⟩
theorem ArF.new {k : ClassId} {z : Int32} {dv : Value} (A : Arr Z h a (newA k ty z) ty) (q : ¬ z < 0) (hn : z.toNatClampNeg = n) (hdv : defaultValue ty = dv := by rfl) : ArF Z h a ty n (fun _ => dv) := by
  subst hn hdv
  refine ⟨_, A, sz_new _ _ _, (back32 q).2, fun i hi => ?_⟩
  simp [newA, hi]
theorem own_clamp {j : Int32} {i : Nat} (hj : j.toInt = (i : Int)) : j.toNatClampNeg = i := by
  show j.toInt.toNat = i
  rw [hj]; rfl
theorem own_inb {c : Cell} {j : Int32} {i : Nat} (S : c.slots.size = n) (hj : j.toInt = (i : Int)) (hi : i < n) : ¬ (j < 0 ∨ c.slots.size ≤ j.toNatClampNeg) := by
  rw [own_clamp hj, S]
  rintro (q | q)
  · rw [Int32.lt_iff_toInt_lt, hj] at q
    have : (0 : Int32).toInt = 0 := by decide
    omega
  · omega
theorem ArF.setW {i : Nat} {c : Cell} (A : Arr Z h a c ty) (S : c.slots.size = n) (q3 : n < 2 ^ 31) (H : ∀ k, k < n → c.slots[k]? = some (f k)) (W : Wr h h' a i v) : ArF Z h' a ty n (fun q => if q = i then v else f q) := by
  refine ⟨_, A.same W, by rw [sz_set, S], q3, fun k hk => ?_⟩
  by_cases e : k = i
  · subst e; simp [Cell.setSlot, S, hk]
  · simp only [if_neg e, Cell.setSlot]
    rw [Array.getElem?_setIfInBounds_ne (Ne.symm e)]; exact H k hk
theorem ArF.stI (X : Stand p l e R s m args below meth c T locs cells slots) (hx : p.tables.exec = Jvm.exec) (hZ : Z.Warmed39 s.vm) (eT : T.heap = h) (F : ArF Z h a .int n f) {j x : Int32} {i : Nat} (hj : j.toInt = (i : Int)) (hi : i < n) {g : JFrame} (hg : g.method = m) {rest : List Value} (hs : g.stack = .int x :: .int j :: .ref a :: rest) (hd : decode c.code g.pc = .ok (.iastore, 1)) :
    ∃ T' h', Stand p l e R s m args below meth c T' (locs ++ [⟨a, i⟩]) cells slots ∧ T'.heap = h' ∧ Wr h h' a i (.int x) ∧ ArF Z h' a .int n (fun q => if q = i then .int x else f q) ∧ ∀ target, Steps p.tables e below (T'.setTop { g with pc := g.pc + 1, stack := rest }) target → Steps p.tables e below (T.setTop g) target := by
  obtain ⟨c, A, S, q3, H⟩ := F
  obtain ⟨T', h', X', e', W, st⟩ := Jvm.RoadKit.stI X hx hZ eT A (own_inb S hj hi) hg hs hd
  rw [own_clamp hj] at X' W
  exact ⟨T', h', X', e', W, ArF.setW A S q3 H W, st⟩
theorem ArF.stJ (X : Stand p l e R s m args below meth c T locs cells slots) (hx : p.tables.exec = Jvm.exec) (hZ : Z.Warmed39 s.vm) (eT : T.heap = h) (F : ArF Z h a .long n f) {j : Int32} {x : Int64} {i : Nat} (hj : j.toInt = (i : Int)) (hi : i < n) {g : JFrame} (hg : g.method = m) {rest : List Value} (hs : g.stack = .long x :: .int j :: .ref a :: rest) (hd : decode c.code g.pc = .ok (.lastore, 1)) :
    ∃ T' h', Stand p l e R s m args below meth c T' (locs ++ [⟨a, i⟩]) cells slots ∧ T'.heap = h' ∧ Wr h h' a i (.long x) ∧ ArF Z h' a .long n (fun q => if q = i then .long x else f q) ∧ ∀ target, Steps p.tables e below (T'.setTop { g with pc := g.pc + 1, stack := rest }) target → Steps p.tables e below (T.setTop g) target := by
  obtain ⟨c, A, S, q3, H⟩ := F
  obtain ⟨T', h', X', e', W, st⟩ := Jvm.RoadKit.stJ X hx hZ eT A (own_inb S hj hi) hg hs hd
  rw [own_clamp hj] at X' W
  exact ⟨T', h', X', e', W, ArF.setW A S q3 H W, st⟩
theorem ArF.stB (X : Stand p l e R s m args below meth c T locs cells slots) (hx : p.tables.exec = Jvm.exec) (hZ : Z.Warmed39 s.vm) (eT : T.heap = h) (F : ArF Z h a .byte n f) {j x : Int32} {i : Nat} (hj : j.toInt = (i : Int)) (hi : i < n) {g : JFrame} (hg : g.method = m) {rest : List Value} (hs : g.stack = .int x :: .int j :: .ref a :: rest) (hd : decode c.code g.pc = .ok (.bastore, 1)) :
    ∃ T' h', Stand p l e R s m args below meth c T' (locs ++ [⟨a, i⟩]) cells slots ∧ T'.heap = h' ∧ Wr h h' a i (.int (nar .byte x)) ∧ ArF Z h' a .byte n (fun q => if q = i then .int (nar .byte x) else f q) ∧ ∀ target, Steps p.tables e below (T'.setTop { g with pc := g.pc + 1, stack := rest }) target → Steps p.tables e below (T.setTop g) target := by
  obtain ⟨c, A, S, q3, H⟩ := F
  obtain ⟨T', h', X', e', W, st⟩ := Jvm.RoadKit.stB X hx hZ eT A (own_inb S hj hi) hg hs hd
  rw [own_clamp hj] at X' W
  exact ⟨T', h', X', e', W, ArF.setW A S q3 H W, st⟩
theorem ArF.stC (X : Stand p l e R s m args below meth c T locs cells slots) (hx : p.tables.exec = Jvm.exec) (hZ : Z.Warmed39 s.vm) (eT : T.heap = h) (F : ArF Z h a .char n f) {j x : Int32} {i : Nat} (hj : j.toInt = (i : Int)) (hi : i < n) {g : JFrame} (hg : g.method = m) {rest : List Value} (hs : g.stack = .int x :: .int j :: .ref a :: rest) (hd : decode c.code g.pc = .ok (.castore, 1)) :
    ∃ T' h', Stand p l e R s m args below meth c T' (locs ++ [⟨a, i⟩]) cells slots ∧ T'.heap = h' ∧ Wr h h' a i (.int (nar .char x)) ∧ ArF Z h' a .char n (fun q => if q = i then .int (nar .char x) else f q) ∧ ∀ target, Steps p.tables e below (T'.setTop { g with pc := g.pc + 1, stack := rest }) target → Steps p.tables e below (T.setTop g) target := by
  obtain ⟨c, A, S, q3, H⟩ := F
  obtain ⟨T', h', X', e', W, st⟩ := Jvm.RoadKit.stC X hx hZ eT A (own_inb S hj hi) hg hs hd
  rw [own_clamp hj] at X' W
  exact ⟨T', h', X', e', W, ArF.setW A S q3 H W, st⟩
theorem ArF.ldI (X : Stand p l e R s m args below meth c T locs cells slots) (hx : p.tables.exec = Jvm.exec) (hZ : Z.Warmed39 s.vm) (eT : T.heap = h) (F : ArF Z h a .int n f) {j : Int32} {i : Nat} (hj : j.toInt = (i : Int)) (hi : i < n) {v : Int32} (hv : f i = .int v) {g : JFrame} (hg : g.method = m) {rest : List Value} (hs : g.stack = .int j :: .ref a :: rest) (hd : decode c.code g.pc = .ok (.iaload, 1)) :
    ∀ target, Steps p.tables e below (T.setTop { g with pc := g.pc + 1, stack := .int v :: rest }) target → Steps p.tables e below (T.setTop g) target := by
  obtain ⟨c, A, S, q3, H⟩ := F
  exact X.iaload hx (by rw [eT]; exact A.1) (State.isArrayOf_alike hZ.alike A.2.1) A.2.2 (own_inb S hj hi) (by rw [own_clamp hj, ← hv]; exact H i hi) hg hs hd
theorem ArF.ldJ (X : Stand p l e R s m args below meth c T locs cells slots) (hx : p.tables.exec = Jvm.exec) (hZ : Z.Warmed39 s.vm) (eT : T.heap = h) (F : ArF Z h a .long n f) {j : Int32} {i : Nat} (hj : j.toInt = (i : Int)) (hi : i < n) {v : Int64} (hv : f i = .long v) {g : JFrame} (hg : g.method = m) {rest : List Value} (hs : g.stack = .int j :: .ref a :: rest) (hd : decode c.code g.pc = .ok (.laload, 1)) :
    ∀ target, Steps p.tables e below (T.setTop { g with pc := g.pc + 1, stack := .long v :: rest }) target → Steps p.tables e below (T.setTop g) target := by
  obtain ⟨c, A, S, q3, H⟩ := F
  exact X.laload hx (by rw [eT]; exact A.1) (State.isArrayOf_alike hZ.alike A.2.1) A.2.2 (own_inb S hj hi) (by rw [own_clamp hj, ← hv]; exact H i hi) hg hs hd
theorem ArF.ldB (X : Stand p l e R s m args below meth c T locs cells slots) (hx : p.tables.exec = Jvm.exec) (hZ : Z.Warmed39 s.vm) (eT : T.heap = h) (F : ArF Z h a .byte n f) {j : Int32} {i : Nat} (hj : j.toInt = (i : Int)) (hi : i < n) {v : Int32} (hv : f i = .int v) {g : JFrame} (hg : g.method = m) {rest : List Value} (hs : g.stack = .int j :: .ref a :: rest) (hd : decode c.code g.pc = .ok (.baload, 1)) :
    ∀ target, Steps p.tables e below (T.setTop { g with pc := g.pc + 1, stack := .int v :: rest }) target → Steps p.tables e below (T.setTop g) target := by
  obtain ⟨c, A, S, q3, H⟩ := F
  exact X.baloadBytes hx (by rw [eT]; exact A.1) (State.isArrayOf_alike hZ.alike A.2.1) A.2.2 (own_inb S hj hi) (by rw [own_clamp hj, ← hv]; exact H i hi) hg hs hd
theorem ArF.ldC (X : Stand p l e R s m args below meth c T locs cells slots) (hx : p.tables.exec = Jvm.exec) (hZ : Z.Warmed39 s.vm) (eT : T.heap = h) (F : ArF Z h a .char n f) {j : Int32} {i : Nat} (hj : j.toInt = (i : Int)) (hi : i < n) {v : Int32} (hv : f i = .int v) {g : JFrame} (hg : g.method = m) {rest : List Value} (hs : g.stack = .int j :: .ref a :: rest) (hd : decode c.code g.pc = .ok (.caload, 1)) :
    ∀ target, Steps p.tables e below (T.setTop { g with pc := g.pc + 1, stack := .int v :: rest }) target → Steps p.tables e below (T.setTop g) target := by
  obtain ⟨c, A, S, q3, H⟩ := F
  exact X.caload hx (by rw [eT]; exact A.1) (State.isArrayOf_alike hZ.alike A.2.1) A.2.2 (own_inb S hj hi) (by rw [own_clamp hj, ← hv]; exact H i hi) hg hs hd
theorem ArF.len (X : Stand p l e R s m args below meth c T locs cells slots) (hx : p.tables.exec = Jvm.exec) (hZ : Z.Warmed39 s.vm) (eT : T.heap = h) (F : ArF Z h a ty n f) {g : JFrame} (hg : g.method = m) {rest : List Value} (hs : g.stack = .ref a :: rest) (hd : decode c.code g.pc = .ok (.arraylength, 1)) :
    ∀ target, Steps p.tables e below (T.setTop { g with pc := g.pc + 1, stack := .int (Int32.ofNat n) :: rest }) target → Steps p.tables e below (T.setTop g) target := by
  obtain ⟨c, A, S, q3, H⟩ := F
  have q := X.arraylength hx (by rw [eT]; exact A.1) (State.isArrayOf_alike hZ.alike A.2.1) hg hs hd
  rw [S] at q
  exact q
theorem own_more (X : Stand p l e R s m args below meth c T locs cells slots) {k n : Nat} (h1 : cells ≤ k) (h2 : slots ≤ n) : Stand p l e R s m args below meth c T locs k n :=
  { X with same := X.same.mono h1 h2 }
theorem own_selP {Z s : State} {a0 args : Array Value} {y : MethodName} {k : Nat} (hZ : Z.Warmed39 s.vm) (wi : (Cond.instantiable y.cls k).before a0 Z = true) (wp : (Cond.privateMethod y).before a0 Z = true) (wm : (Cond.instanceMethod y).before a0 Z = true) (hy : y.cls ≠ "java/lang/invoke/MethodHandle" ∧ y.cls ≠ "java/lang/invoke/VarHandle") : (Cond.selects y.cls y y).before args s = true := by
  have wi' : (Cond.instantiable y.cls k).before args s = true := mvT hZ wi
  obtain ⟨c, q, h1, h2, -, h4, -⟩ := Cond.instantiable_spec wi'
  simp only [Bool.or_eq_false_iff] at h4
  exact Jvm.Stand.selects_self_of_private h1 h2 h4.1 (Cond.privateMethod_at (mvP hZ wp (args := args))) (mvT hZ wm) hy
end Own
end Jvm.RoadKit
namespace Jvm.Pilot.@@N@@
open Jvm Jvm.ClassFile Sem Op Lib Jvm.Free Jvm.Stand Jvm.LawKit Jvm.RoadKit Bundle Jvm.Pilot.@@N@@.Jvm.D
theorem d1_0 : decode prog_59_method_1_code 0 = .ok (.aload_n 0, 1) := by decide +kernel
theorem d1_1 : decode prog_59_method_1_code 1 = .ok (.invokespecial 1, 3) := by decide +kernel
theorem d1_4 : decode prog_59_method_1_code 4 = .ok (.aload_n 0, 1) := by decide +kernel
theorem d1_5 : decode prog_59_method_1_code 5 = .ok (.iload_n 1, 1) := by decide +kernel
theorem d1_6 : decode prog_59_method_1_code 6 = .ok (.putfield 7, 3) := by decide +kernel
theorem d1_9 : decode prog_59_method_1_code 9 = .ok (.aload_n 0, 1) := by decide +kernel
theorem d1_10 : decode prog_59_method_1_code 10 = .ok (.iload_n 2, 1) := by decide +kernel
theorem d1_11 : decode prog_59_method_1_code 11 = .ok (.putfield 13, 3) := by decide +kernel
theorem d1_14 : decode prog_59_method_1_code 14 = .ok (.iload_n 2, 1) := by decide +kernel
theorem d1_15 : decode prog_59_method_1_code 15 = .ok (.iconst (-1), 1) := by decide +kernel
theorem d1_16 : decode prog_59_method_1_code 16 = .ok (.if_icmp .ne 7, 3) := by decide +kernel
theorem d1_19 : decode prog_59_method_1_code 19 = .ok (.iload_n 1, 1) := by decide +kernel
theorem d1_20 : decode prog_59_method_1_code 20 = .ok (.goto 6, 3) := by decide +kernel
theorem d1_23 : decode prog_59_method_1_code 23 = .ok (.iload_n 1, 1) := by decide +kernel
theorem d1_24 : decode prog_59_method_1_code 24 = .ok (.iconst 1, 1) := by decide +kernel
theorem d1_25 : decode prog_59_method_1_code 25 = .ok (.isub, 1) := by decide +kernel
theorem d1_26 : decode prog_59_method_1_code 26 = .ok (.istore_n 3, 1) := by decide +kernel
theorem d1_27 : decode prog_59_method_1_code 27 = .ok (.aload_n 0, 1) := by decide +kernel
theorem d1_28 : decode prog_59_method_1_code 28 = .ok (.iload_n 3, 1) := by decide +kernel
theorem d1_29 : decode prog_59_method_1_code 29 = .ok (.ifCond .ne 9, 3) := by decide +kernel
theorem d1_32 : decode prog_59_method_1_code 32 = .ok (.ldc2_w 18, 3) := by decide +kernel
theorem d1_35 : decode prog_59_method_1_code 35 = .ok (.goto 4, 3) := by decide +kernel
theorem d1_38 : decode prog_59_method_1_code 38 = .ok (.lconst 0, 1) := by decide +kernel
theorem d1_39 : decode prog_59_method_1_code 39 = .ok (.putfield 20, 3) := by decide +kernel
theorem d1_42 : decode prog_59_method_1_code 42 = .ok (.aload_n 0, 1) := by decide +kernel
theorem d1_43 : decode prog_59_method_1_code 43 = .ok (.iload_n 3, 1) := by decide +kernel
theorem d1_44 : decode prog_59_method_1_code 44 = .ok (.putfield 24, 3) := by decide +kernel
theorem d1_47 : decode prog_59_method_1_code 47 = .ok (.return_, 1) := by decide +kernel
theorem d3_0 : decode prog_59_method_2_code 0 = .ok (.aload_n 0, 1) := by decide +kernel
theorem d3_1 : decode prog_59_method_2_code 1 = .ok (.getfield 27, 3) := by decide +kernel
theorem d3_4 : decode prog_59_method_2_code 4 = .ok (.ifnonnull 7, 3) := by decide +kernel
theorem d3_7 : decode prog_59_method_2_code 7 = .ok (.lconst 0, 1) := by decide +kernel
theorem d3_8 : decode prog_59_method_2_code 8 = .ok (.goto 9, 3) := by decide +kernel
theorem d3_11 : decode prog_59_method_2_code 11 = .ok (.aload_n 0, 1) := by decide +kernel
theorem d3_12 : decode prog_59_method_2_code 12 = .ok (.getfield 27, 3) := by decide +kernel
theorem d3_15 : decode prog_59_method_2_code 15 = .ok (.iload_n 1, 1) := by decide +kernel
theorem d3_16 : decode prog_59_method_2_code 16 = .ok (.laload, 1) := by decide +kernel
theorem d3_17 : decode prog_59_method_2_code 17 = .ok (.lreturn, 1) := by decide +kernel
theorem d4_0 : decode method_2_code 0 = .ok (.iload_n 1, 1) := by decide +kernel
theorem d4_1 : decode method_2_code 1 = .ok (.iconst (-1), 1) := by decide +kernel
theorem d4_2 : decode method_2_code 2 = .ok (.if_icmp .ne 10, 3) := by decide +kernel
theorem d4_5 : decode method_2_code 5 = .ok (.iload_n 0, 1) := by decide +kernel
theorem d4_6 : decode method_2_code 6 = .ok (.ldc 9, 2) := by decide +kernel
theorem d4_8 : decode method_2_code 8 = .ok (.iand, 1) := by decide +kernel
theorem d4_9 : decode method_2_code 9 = .ok (.iconst 3, 1) := by decide +kernel
theorem d4_10 : decode method_2_code 10 = .ok (.irem, 1) := by decide +kernel
theorem d4_11 : decode method_2_code 11 = .ok (.ireturn, 1) := by decide +kernel
theorem d4_12 : decode method_2_code 12 = .ok (.iload_n 1, 1) := by decide +kernel
theorem d4_13 : decode method_2_code 13 = .ok (.iconst 1, 1) := by decide +kernel
theorem d4_14 : decode method_2_code 14 = .ok (.iadd, 1) := by decide +kernel
theorem d4_15 : decode method_2_code 15 = .ok (.iload_n 0, 1) := by decide +kernel
theorem d4_16 : decode method_2_code 16 = .ok (.iconst 1, 1) := by decide +kernel
theorem d4_17 : decode method_2_code 17 = .ok (.iand, 1) := by decide +kernel
theorem d4_18 : decode method_2_code 18 = .ok (.iadd, 1) := by decide +kernel
theorem d4_19 : decode method_2_code 19 = .ok (.iconst 3, 1) := by decide +kernel
theorem d4_20 : decode method_2_code 20 = .ok (.irem, 1) := by decide +kernel
theorem d4_21 : decode method_2_code 21 = .ok (.ireturn, 1) := by decide +kernel
theorem d5_0 : decode prog_59_method_4_code 0 = .ok (.aload_n 0, 1) := by decide +kernel
theorem d5_1 : decode prog_59_method_4_code 1 = .ok (.iload_n 1, 1) := by decide +kernel
theorem d5_2 : decode prog_59_method_4_code 2 = .ok (.invokevirtual 31, 3) := by decide +kernel
theorem d5_5 : decode prog_59_method_4_code 5 = .ok (.lstore 4, 2) := by decide +kernel
theorem d5_7 : decode prog_59_method_4_code 7 = .ok (.lload_n 2, 1) := by decide +kernel
theorem d5_8 : decode prog_59_method_4_code 8 = .ok (.lload 4, 2) := by decide +kernel
theorem d5_10 : decode prog_59_method_4_code 10 = .ok (.lcmp, 1) := by decide +kernel
theorem d5_11 : decode prog_59_method_4_code 11 = .ok (.ifCond .ne 4, 3) := by decide +kernel
theorem d5_14 : decode prog_59_method_4_code 14 = .ok (.return_, 1) := by decide +kernel
theorem d5_15 : decode prog_59_method_4_code 15 = .ok (.aload_n 0, 1) := by decide +kernel
theorem d5_16 : decode prog_59_method_4_code 16 = .ok (.getfield 27, 3) := by decide +kernel
theorem d5_19 : decode prog_59_method_4_code 19 = .ok (.ifnonnull 13, 3) := by decide +kernel
theorem d5_22 : decode prog_59_method_4_code 22 = .ok (.aload_n 0, 1) := by decide +kernel
theorem d5_23 : decode prog_59_method_4_code 23 = .ok (.aload_n 0, 1) := by decide +kernel
theorem d5_24 : decode prog_59_method_4_code 24 = .ok (.getfield 7, 3) := by decide +kernel
theorem d5_27 : decode prog_59_method_4_code 27 = .ok (.newarray .long, 2) := by decide +kernel
theorem d5_29 : decode prog_59_method_4_code 29 = .ok (.putfield 27, 3) := by decide +kernel
theorem d5_32 : decode prog_59_method_4_code 32 = .ok (.aload_n 0, 1) := by decide +kernel
theorem d5_33 : decode prog_59_method_4_code 33 = .ok (.getfield 27, 3) := by decide +kernel
theorem d5_36 : decode prog_59_method_4_code 36 = .ok (.iload_n 1, 1) := by decide +kernel
theorem d5_37 : decode prog_59_method_4_code 37 = .ok (.lload_n 2, 1) := by decide +kernel
theorem d5_38 : decode prog_59_method_4_code 38 = .ok (.lastore, 1) := by decide +kernel
theorem d5_39 : decode prog_59_method_4_code 39 = .ok (.lload_n 2, 1) := by decide +kernel
theorem d5_40 : decode prog_59_method_4_code 40 = .ok (.aload_n 0, 1) := by decide +kernel
theorem d5_41 : decode prog_59_method_4_code 41 = .ok (.getfield 20, 3) := by decide +kernel
theorem d5_44 : decode prog_59_method_4_code 44 = .ok (.lcmp, 1) := by decide +kernel
theorem d5_45 : decode prog_59_method_4_code 45 = .ok (.ifCond .ge 16, 3) := by decide +kernel
theorem d5_48 : decode prog_59_method_4_code 48 = .ok (.aload_n 0, 1) := by decide +kernel
theorem d5_49 : decode prog_59_method_4_code 49 = .ok (.lload_n 2, 1) := by decide +kernel
theorem d5_50 : decode prog_59_method_4_code 50 = .ok (.putfield 20, 3) := by decide +kernel
theorem d5_53 : decode prog_59_method_4_code 53 = .ok (.aload_n 0, 1) := by decide +kernel
theorem d5_54 : decode prog_59_method_4_code 54 = .ok (.iconst 1, 1) := by decide +kernel
theorem d5_55 : decode prog_59_method_4_code 55 = .ok (.putfield 24, 3) := by decide +kernel
theorem d5_58 : decode prog_59_method_4_code 58 = .ok (.goto 53, 3) := by decide +kernel
theorem d5_61 : decode prog_59_method_4_code 61 = .ok (.lload_n 2, 1) := by decide +kernel
theorem d5_62 : decode prog_59_method_4_code 62 = .ok (.aload_n 0, 1) := by decide +kernel
theorem d5_63 : decode prog_59_method_4_code 63 = .ok (.getfield 20, 3) := by decide +kernel
theorem d5_66 : decode prog_59_method_4_code 66 = .ok (.lcmp, 1) := by decide +kernel
theorem d5_67 : decode prog_59_method_4_code 67 = .ok (.ifCond .ne 16, 3) := by decide +kernel
theorem d5_70 : decode prog_59_method_4_code 70 = .ok (.aload_n 0, 1) := by decide +kernel
theorem d5_71 : decode prog_59_method_4_code 71 = .ok (.dup, 1) := by decide +kernel
theorem d5_72 : decode prog_59_method_4_code 72 = .ok (.getfield 24, 3) := by decide +kernel
theorem d5_75 : decode prog_59_method_4_code 75 = .ok (.iconst 1, 1) := by decide +kernel
theorem d5_76 : decode prog_59_method_4_code 76 = .ok (.iadd, 1) := by decide +kernel
theorem d5_77 : decode prog_59_method_4_code 77 = .ok (.putfield 24, 3) := by decide +kernel
theorem d5_80 : decode prog_59_method_4_code 80 = .ok (.goto 31, 3) := by decide +kernel
theorem d5_83 : decode prog_59_method_4_code 83 = .ok (.lload 4, 2) := by decide +kernel
theorem d5_85 : decode prog_59_method_4_code 85 = .ok (.aload_n 0, 1) := by decide +kernel
theorem d5_86 : decode prog_59_method_4_code 86 = .ok (.getfield 20, 3) := by decide +kernel
theorem d5_89 : decode prog_59_method_4_code 89 = .ok (.lcmp, 1) := by decide +kernel
theorem d5_90 : decode prog_59_method_4_code 90 = .ok (.ifCond .ne 21, 3) := by decide +kernel
theorem d5_93 : decode prog_59_method_4_code 93 = .ok (.aload_n 0, 1) := by decide +kernel
theorem d5_94 : decode prog_59_method_4_code 94 = .ok (.dup, 1) := by decide +kernel
theorem d5_95 : decode prog_59_method_4_code 95 = .ok (.getfield 24, 3) := by decide +kernel
theorem d5_98 : decode prog_59_method_4_code 98 = .ok (.iconst 1, 1) := by decide +kernel
theorem d5_99 : decode prog_59_method_4_code 99 = .ok (.isub, 1) := by decide +kernel
theorem d5_100 : decode prog_59_method_4_code 100 = .ok (.dup_x1, 1) := by decide +kernel
theorem d5_101 : decode prog_59_method_4_code 101 = .ok (.putfield 24, 3) := by decide +kernel
theorem d5_104 : decode prog_59_method_4_code 104 = .ok (.ifCond .ne 7, 3) := by decide +kernel
theorem d5_107 : decode prog_59_method_4_code 107 = .ok (.aload_n 0, 1) := by decide +kernel
theorem d5_108 : decode prog_59_method_4_code 108 = .ok (.invokevirtual 35, 3) := by decide +kernel
theorem d5_111 : decode prog_59_method_4_code 111 = .ok (.return_, 1) := by decide +kernel
theorem d6_0 : decode method_3_code 0 = .ok (.iload_n 0, 1) := by decide +kernel
theorem d6_1 : decode method_3_code 1 = .ok (.iload 4, 2) := by decide +kernel
theorem d6_3 : decode method_3_code 3 = .ok (.if_icmp .ne 6, 3) := by decide +kernel
theorem d6_6 : decode method_3_code 6 = .ok (.lload 5, 2) := by decide +kernel
theorem d6_8 : decode method_3_code 8 = .ok (.lreturn, 1) := by decide +kernel
theorem d6_9 : decode method_3_code 9 = .ok (.iload_n 0, 1) := by decide +kernel
theorem d6_10 : decode method_3_code 10 = .ok (.iload_n 1, 1) := by decide +kernel
theorem d6_11 : decode method_3_code 11 = .ok (.if_icmp .ne 5, 3) := by decide +kernel
theorem d6_14 : decode method_3_code 14 = .ok (.lload_n 2, 1) := by decide +kernel
theorem d6_15 : decode method_3_code 15 = .ok (.lreturn, 1) := by decide +kernel
theorem d6_16 : decode method_3_code 16 = .ok (.lconst 0, 1) := by decide +kernel
theorem d6_17 : decode method_3_code 17 = .ok (.lreturn, 1) := by decide +kernel
theorem d7_0 : decode prog_59_method_5_code 0 = .ok (.aload_n 0, 1) := by decide +kernel
theorem d7_1 : decode prog_59_method_5_code 1 = .ok (.ldc2_w 18, 3) := by decide +kernel
theorem d7_4 : decode prog_59_method_5_code 4 = .ok (.putfield 20, 3) := by decide +kernel
theorem d7_7 : decode prog_59_method_5_code 7 = .ok (.aload_n 0, 1) := by decide +kernel
theorem d7_8 : decode prog_59_method_5_code 8 = .ok (.iconst 0, 1) := by decide +kernel
theorem d7_9 : decode prog_59_method_5_code 9 = .ok (.putfield 24, 3) := by decide +kernel
theorem d7_12 : decode prog_59_method_5_code 12 = .ok (.iconst 0, 1) := by decide +kernel
theorem d7_13 : decode prog_59_method_5_code 13 = .ok (.istore_n 1, 1) := by decide +kernel
theorem d7_14 : decode prog_59_method_5_code 14 = .ok (.iload_n 1, 1) := by decide +kernel
theorem d7_15 : decode prog_59_method_5_code 15 = .ok (.aload_n 0, 1) := by decide +kernel
theorem d7_16 : decode prog_59_method_5_code 16 = .ok (.getfield 7, 3) := by decide +kernel
theorem d7_19 : decode prog_59_method_5_code 19 = .ok (.if_icmp .ge 76, 3) := by decide +kernel
theorem d7_22 : decode prog_59_method_5_code 22 = .ok (.iload_n 1, 1) := by decide +kernel
theorem d7_23 : decode prog_59_method_5_code 23 = .ok (.aload_n 0, 1) := by decide +kernel
theorem d7_24 : decode prog_59_method_5_code 24 = .ok (.getfield 13, 3) := by decide +kernel
theorem d7_27 : decode prog_59_method_5_code 27 = .ok (.if_icmp .ne 6, 3) := by decide +kernel
theorem d7_30 : decode prog_59_method_5_code 30 = .ok (.goto 59, 3) := by decide +kernel
theorem d7_33 : decode prog_59_method_5_code 33 = .ok (.aload_n 0, 1) := by decide +kernel
theorem d7_34 : decode prog_59_method_5_code 34 = .ok (.getfield 27, 3) := by decide +kernel
theorem d7_37 : decode prog_59_method_5_code 37 = .ok (.iload_n 1, 1) := by decide +kernel
theorem d7_38 : decode prog_59_method_5_code 38 = .ok (.laload, 1) := by decide +kernel
theorem d7_39 : decode prog_59_method_5_code 39 = .ok (.aload_n 0, 1) := by decide +kernel
theorem d7_40 : decode prog_59_method_5_code 40 = .ok (.getfield 20, 3) := by decide +kernel
theorem d7_43 : decode prog_59_method_5_code 43 = .ok (.lcmp, 1) := by decide +kernel
theorem d7_44 : decode prog_59_method_5_code 44 = .ok (.ifCond .ge 21, 3) := by decide +kernel
theorem d7_47 : decode prog_59_method_5_code 47 = .ok (.aload_n 0, 1) := by decide +kernel
theorem d7_48 : decode prog_59_method_5_code 48 = .ok (.aload_n 0, 1) := by decide +kernel
theorem d7_49 : decode prog_59_method_5_code 49 = .ok (.getfield 27, 3) := by decide +kernel
theorem d7_52 : decode prog_59_method_5_code 52 = .ok (.iload_n 1, 1) := by decide +kernel
theorem d7_53 : decode prog_59_method_5_code 53 = .ok (.laload, 1) := by decide +kernel
theorem d7_54 : decode prog_59_method_5_code 54 = .ok (.putfield 20, 3) := by decide +kernel
theorem d7_57 : decode prog_59_method_5_code 57 = .ok (.aload_n 0, 1) := by decide +kernel
theorem d7_58 : decode prog_59_method_5_code 58 = .ok (.iconst 1, 1) := by decide +kernel
theorem d7_59 : decode prog_59_method_5_code 59 = .ok (.putfield 24, 3) := by decide +kernel
theorem d7_62 : decode prog_59_method_5_code 62 = .ok (.goto 27, 3) := by decide +kernel
theorem d7_65 : decode prog_59_method_5_code 65 = .ok (.aload_n 0, 1) := by decide +kernel
theorem d7_66 : decode prog_59_method_5_code 66 = .ok (.getfield 27, 3) := by decide +kernel
theorem d7_69 : decode prog_59_method_5_code 69 = .ok (.iload_n 1, 1) := by decide +kernel
theorem d7_70 : decode prog_59_method_5_code 70 = .ok (.laload, 1) := by decide +kernel
theorem d7_71 : decode prog_59_method_5_code 71 = .ok (.aload_n 0, 1) := by decide +kernel
theorem d7_72 : decode prog_59_method_5_code 72 = .ok (.getfield 20, 3) := by decide +kernel
theorem d7_75 : decode prog_59_method_5_code 75 = .ok (.lcmp, 1) := by decide +kernel
theorem d7_76 : decode prog_59_method_5_code 76 = .ok (.ifCond .ne 13, 3) := by decide +kernel
theorem d7_79 : decode prog_59_method_5_code 79 = .ok (.aload_n 0, 1) := by decide +kernel
theorem d7_80 : decode prog_59_method_5_code 80 = .ok (.dup, 1) := by decide +kernel
theorem d7_81 : decode prog_59_method_5_code 81 = .ok (.getfield 24, 3) := by decide +kernel
theorem d7_84 : decode prog_59_method_5_code 84 = .ok (.iconst 1, 1) := by decide +kernel
theorem d7_85 : decode prog_59_method_5_code 85 = .ok (.iadd, 1) := by decide +kernel
theorem d7_86 : decode prog_59_method_5_code 86 = .ok (.putfield 24, 3) := by decide +kernel
theorem d7_89 : decode prog_59_method_5_code 89 = .ok (.iinc 1 1, 3) := by decide +kernel
theorem d7_92 : decode prog_59_method_5_code 92 = .ok (.goto (-78), 3) := by decide +kernel
theorem d7_95 : decode prog_59_method_5_code 95 = .ok (.return_, 1) := by decide +kernel
theorem pn_0 : plainName "com/example/totality/totality/core/Windows" = true := by first | (simp [plainName, overriddenIn]; done) | decide +kernel
theorem pn_1 : plainName "com/example/totality/totality/core/WindowsStartPinLaw" = true := by first | (simp [plainName, overriddenIn]; done) | decide +kernel
theorem pd_0 : parseMethodDescriptor "(I)J" = some ⟨[.int], some .long⟩ := by decide +kernel
theorem pd_1 : parseMethodDescriptor "()V" = some ⟨[], none⟩ := by decide +kernel
theorem pd_2 : parseMethodDescriptor "(II)V" = some ⟨[.int, .int], none⟩ := by decide +kernel
theorem pd_3 : parseMethodDescriptor "(II)I" = some ⟨[.int, .int], some .int⟩ := by decide +kernel
theorem pd_4 : parseMethodDescriptor "(IJ)V" = some ⟨[.int, .long], none⟩ := by decide +kernel
theorem pd_5 : parseMethodDescriptor "(IIJIJ)J" = some ⟨[.int, .int, .long, .int, .long], some .long⟩ := by decide +kernel

/-- a Windows of three nodes, whose starts are vals -/
def own_WS (Z : State) (h : Heap) (n0 : Nat) (a : Addr) (s : Int32) (vals : Nat → Int64) : Prop :=
  n0 ≤ a ∧ Exa Z h a "com/example/totality/totality/core/Windows" ∧ Fld Z h a "com/example/totality/totality/core/Windows" "nodes" "I" (.int (3 : Int32)) ∧ Fld Z h a "com/example/totality/totality/core/Windows" "self" "I" (.int s) ∧ (∃ (lo : Int64) (al : Int32), Fld Z h a "com/example/totality/totality/core/Windows" "lowest" "J" (.long lo) ∧ Fld Z h a "com/example/totality/totality/core/Windows" "atLowest" "I" (.int al)) ∧
  ((Fld Z h a "com/example/totality/totality/core/Windows" "starts" "[J" .null ∧ ∀ i, i < 3 → vals i = 0) ∨ ∃ t : Addr, n0 ≤ t ∧ a ≠ t ∧ Fld Z h a "com/example/totality/totality/core/Windows" "starts" "[J" (.ref t) ∧ ArF Z h t .long 3 (fun q => (.long (vals q))))
def own_put (vals : Nat → Int64) (i : Nat) (v : Int64) : Nat → Int64 := fun q => if q = i then v else vals q
theorem own_i32 : (0 : Int32).toInt = 0 ∧ (1 : Int32).toInt = 1 ∧ (2 : Int32).toInt = 2 ∧ (3 : Int32).toInt = 3 ∧ (-1 : Int32).toInt = -1 := by decide
def own_ix (x : Int32) (i : Nat) : Prop := x.toInt = (i : Int) ∧ i < 3
def own_pick (x s : Int32) : Int32 := if s = (-1 : Int32) then (x &&& (2147483647 : Int32)) % (3 : Int32) else ((s + (1 : Int32)) + (x &&& (1 : Int32))) % (3 : Int32)
def own_self (s : Int32) : Prop := -1 ≤ s.toInt ∧ s.toInt ≤ 2
theorem own_mod3 (x : Int32) (h : 0 ≤ x.toInt) : ∃ i, own_ix (x % (3 : Int32)) i := by
  obtain ⟨e0, e1, e2, e3, e4⟩ := own_i32
  have r : (x % (3 : Int32)).toInt = x.toInt % 3 := by rw [Int32.toInt_mod, e3, Int.tmod_eq_emod_of_nonneg h]
  exact ⟨(x % (3 : Int32)).toInt.toNat, by omega, by omega⟩
theorem own_pick_in (x s : Int32) (h : own_self s) : ∃ i, own_ix (own_pick x s) i := by
  obtain ⟨e0, e1, e2, e3, e4⟩ := own_i32
  unfold own_self at h
  unfold own_pick
  split
  · exact own_mod3 _ (own_mask32 x 2147483647 (by decide)).1
  · rename_i q
    have m := own_mask32 x 1 (by decide)
    have s1 : (s + (1 : Int32)).toInt = s.toInt + 1 := by rw [own_add32] <;> rw [e1] <;> omega
    refine own_mod3 _ ?_
    rw [own_add32] <;> rw [s1] <;> omega
theorem own_self_in (k s v : Int32) (hs : s = k &&& (3 : Int32)) (hv : v = if s = (3 : Int32) then (-1 : Int32) else s) : own_self v := by
  obtain ⟨e0, e1, e2, e3, e4⟩ := own_i32
  have m := own_mask32 k 3 (by decide)
  unfold own_self
  rw [hv]
  split
  · rw [e4]; omega
  · rename_i q
    have : s.toInt ≠ 3 := fun z => q (Int32.toInt_inj.mp (by rw [z, e3]))
    rw [hs] at *
    omega
def own_exp (k : Int32) (a : Int32) (v : Int64) (b : Int32) (w : Int64) : Int64 := if k = b then w else if k = a then v else 0
theorem own_fin {a b k : Int32} {i j n : Nat} {v w : Int64} (ha : own_ix a i) (hb : own_ix b j) (hk : own_ix k n) : own_put (own_put (fun _ => 0) i v) j w n = own_exp k a v b w := by
  unfold own_put own_exp
  have q1 : (n = j) ↔ (k = b) := ⟨fun e => Int32.toInt_inj.mp (by rw [hk.1, hb.1, e]), fun e => by have := hk.1; rw [e, hb.1] at this; omega⟩
  have q2 : (n = i) ↔ (k = a) := ⟨fun e => Int32.toInt_inj.mp (by rw [hk.1, ha.1, e]), fun e => by have := hk.1; rw [e, ha.1] at this; omega⟩
  simp only [q1, q2]
theorem ef_rm1 (m : MethodId) (x0 : Addr) (x1 : Int32) (x2 : Int32) : entryFrame m #[(.ref x0), (.int x1), (.int x2)] 4 = mkF m 0 #[.val (.ref x0), .val (.int x1), .val (.int x2), .unset] [] := by first | (simp [entryFrame, mkF, argsToLocals, Value.category]; done) | rfl
def Q_rm1 (Z : State) (a1 : Addr) (s1 : Int32) (h0 : Heap) (n0 : Nat) (v : Option Value) (h : Heap) (L : List Loc) : Prop := v = none ∧ Fr n0 L ∧ Keep h0 h [a1] ∧ own_WS Z h n0 a1 s1 (fun _ => 0)
set_option maxRecDepth 65536 in
set_option maxHeartbeats 40000000 in
theorem rm1 (l : Launch) (Z : State) (a0 : Array Value) (hw : ∀ d ∈ tables_1, d.before a0 Z = true) (ws : List Jvm.Cond) (a1 : Addr) (s1 : Int32) (h0 : Heap) (n0 : Nat) (Z0 : n0 ≤ h0.size) (F1 : Exa Z h0 a1 "com/example/totality/totality/core/Windows") (F2 : Fld Z h0 a1 "com/example/totality/totality/core/Windows" "nodes" "I" (.int (0 : Int32))) (F3 : Fld Z h0 a1 "com/example/totality/totality/core/Windows" "self" "I" (.int (0 : Int32))) (F4 : Fld Z h0 a1 "com/example/totality/totality/core/Windows" "lowest" "J" (.long (0 : Int64))) (F5 : Fld Z h0 a1 "com/example/totality/totality/core/Windows" "atLowest" "I" (.int (0 : Int32))) (F6 : Fld Z h0 a1 "com/example/totality/totality/core/Windows" "starts" "[J" .null) (g_a1 : n0 ≤ a1) :
    MetFree l (⟨"com/example/totality/totality/core/Windows", "<init>", "(II)V"⟩ : MethodName) (head1 (Jvm.Cond.code (⟨"com/example/totality/totality/core/Windows", "<init>", "(II)V"⟩ : MethodName) prog_59_method_1_code 4 none :: ws) ({ frames := 1, cells := 0, slots := 0, locals := 12 } : Room)) (fun a U => a = #[(.ref a1), (.int (3 : Int32)), (.int s1)] ∧ Z.Warmed39 U.vm ∧ U.heap = h0) (fun _ _ _ _ _ => True) (fun _ U o U' => ∃ v L, o = .returned v ∧ Q_rm1 Z a1 s1 h0 n0 v U'.heap L ∧ FrameEnd U o U' L ({ frames := 1, cells := 0, slots := 0, locals := 12 } : Room).cells ({ frames := 1, cells := 0, slots := 0, locals := 12 } : Room).slots) := by
  refine MetFree.of_bodySF (plainFor_of_name pn_0) hisR ?_
  intro p e s m args below meth c s₁ Bd hml0 hP hK
  obtain ⟨rfl, hZ, hh⟩ := hP
  have hx := Bd.exec
  have hby := Bd.bytes
  have hml : c.maxLocals = 4 := hml0
  have hown : s.vm.findClass "com/example/totality/totality/core/Windows" = some m.cls := findClass_of_methodNamed Bd.named
  have hnm := (name_of_methodNamed Bd.named Bd.method).1
  have X0 : Stand p l e ({ frames := 1, cells := 0, slots := 0, locals := 12 } : Room) s m #[(.ref a1), (.int (3 : Int32)), (.int s1)] below meth c s₁ [] 0 0 := Stand.of_body Bd
  have e0 : s₁.heap = h0 := by rw [← hh, Bd.state]; rfl
  have N0 := Fr.nil n0
  have pre0 : ∀ t, Steps p.tables e below (s₁.setTop (mkF m 0 #[.val (.ref a1), .val (.int (3 : Int32)), .val (.int s1), .unset] [])) t → Steps p.tables e below (s₁.setTop (entryFrame m #[(.ref a1), (.int (3 : Int32)), (.int s1)] 4)) t := fun t k => castTop (ef_rm1 m a1 (3 : Int32) s1) k
  have S7 : ∀ t, Steps p.tables e below (s₁.setTop (mkF m 1 #[.val (.ref a1), .val (.int (3 : Int32)), .val (.int s1), .unset] [(.ref a1)])) t → Steps p.tables e below (s₁.setTop (mkF m 0 #[.val (.ref a1), .val (.int (3 : Int32)), .val (.int s1), .unset] [])) t := by
    intro t kt
    show Steps p.tables e below (s₁.setTop (mkF m 0 #[.val (.ref a1), .val (.int (3 : Int32)), .val (.int s1), .unset] [])) _
    refine XS.aloadN X0.here hx rfl (hb hby d1_0) rfl rfl ?_
    exact kt
  obtain ⟨T8, X8, e8, st8⟩ := initO X0 hx hZ hown (hw _ (List.mem_of_getElem? (i := 6) rfl)) (hw _ (List.mem_of_getElem? (i := 7) rfl)) (hw _ (List.mem_of_getElem? (i := 8) rfl)) e0 (g := (mkF m 1 #[.val (.ref a1), .val (.int (3 : Int32)), .val (.int s1), .unset] [(.ref a1)])) rfl (by rw [hml]; rfl) rfl (hb hby d1_1) (by decide) (W := 0) (by show 2 * 0 + _ ≤ _; exact Nat.le_of_eq rfl) (by decide)
  have S9 : ∀ t, Steps p.tables e below (T8.setTop (mkF m 6 #[.val (.ref a1), .val (.int (3 : Int32)), .val (.int s1), .unset] [(.int (3 : Int32)), (.ref a1)])) t → Steps p.tables e below (T8.setTop (mkF m 4 #[.val (.ref a1), .val (.int (3 : Int32)), .val (.int s1), .unset] [])) t := by
    intro t kt
    show Steps p.tables e below (T8.setTop (mkF m 4 #[.val (.ref a1), .val (.int (3 : Int32)), .val (.int s1), .unset] [])) _
    refine XS.aloadN X8.here hx rfl (hb hby d1_4) rfl rfl ?_
    show Steps p.tables e below (T8.setTop (mkF m 5 #[.val (.ref a1), .val (.int (3 : Int32)), .val (.int s1), .unset] [(.ref a1)])) _
    refine XS.iloadN X8.here hx rfl (hb hby d1_5) rfl ?_
    exact kt
  obtain ⟨T10, h10, X10, e10, W10, st10⟩ := putF X8 hx hZ hown (host := "") (Or.inl (hw _ (List.mem_of_getElem? (i := 9) rfl))) Via.refl e8 F2 F1 (Or.inr ⟨(hw _ (List.mem_of_getElem? (i := 10) rfl)), rfl, hnm⟩) (hw _ (List.mem_of_getElem? (i := 1) rfl)) (ty := .int) (by decide) rfl rfl (g := (mkF m 6 #[.val (.ref a1), .val (.int (3 : Int32)), .val (.int s1), .unset] [(.int (3 : Int32)), (.ref a1)])) rfl rfl (hb hby d1_6)
  have z11 : n0 ≤ h10.size := Nat.le_trans Z0 (Keep.of_wr W10).1
  have N12 := Fr.snoc X10 N0 g_a1
  have Fw10 := F2.same W10
  have S13 : ∀ t, Steps p.tables e below (T10.setTop (mkF m 11 #[.val (.ref a1), .val (.int (3 : Int32)), .val (.int s1), .unset] [(.int s1), (.ref a1)])) t → Steps p.tables e below (T10.setTop (mkF m 9 #[.val (.ref a1), .val (.int (3 : Int32)), .val (.int s1), .unset] [])) t := by
    intro t kt
    show Steps p.tables e below (T10.setTop (mkF m 9 #[.val (.ref a1), .val (.int (3 : Int32)), .val (.int s1), .unset] [])) _
    refine XS.aloadN X10.here hx rfl (hb hby d1_9) rfl rfl ?_
    show Steps p.tables e below (T10.setTop (mkF m 10 #[.val (.ref a1), .val (.int (3 : Int32)), .val (.int s1), .unset] [(.ref a1)])) _
    refine XS.iloadN X10.here hx rfl (hb hby d1_10) rfl ?_
    exact kt
  have f14 := (F3.other W10 (Or.inr (slot_ne (Or.inr (hw _ (List.mem_of_getElem? (i := 12) rfl))) (Or.inr (hw _ (List.mem_of_getElem? (i := 10) rfl))) (by decide) (t := .int) (t' := .int) (by decide) (by decide))))
  have f15 := (F1.wr W10)
  obtain ⟨T16, h16, X16, e16, W16, st16⟩ := putF X10 hx hZ hown (host := "") (Or.inl (hw _ (List.mem_of_getElem? (i := 11) rfl))) Via.refl e10 f14 f15 (Or.inr ⟨(hw _ (List.mem_of_getElem? (i := 12) rfl)), rfl, hnm⟩) (hw _ (List.mem_of_getElem? (i := 1) rfl)) (ty := .int) (by decide) rfl rfl (g := (mkF m 11 #[.val (.ref a1), .val (.int (3 : Int32)), .val (.int s1), .unset] [(.int s1), (.ref a1)])) rfl rfl (hb hby d1_11)
  have z17 : n0 ≤ h16.size := Nat.le_trans z11 (Keep.of_wr W16).1
  have N18 := Fr.snoc X16 N12 g_a1
  have Fw16 := f14.same W16
  have S19 : ∀ t, Steps p.tables e below (T16.setTop (mkF m 16 #[.val (.ref a1), .val (.int (3 : Int32)), .val (.int s1), .unset] [(.int (-1 : Int32)), (.int s1)])) t → Steps p.tables e below (T16.setTop (mkF m 14 #[.val (.ref a1), .val (.int (3 : Int32)), .val (.int s1), .unset] [])) t := by
    intro t kt
    show Steps p.tables e below (T16.setTop (mkF m 14 #[.val (.ref a1), .val (.int (3 : Int32)), .val (.int s1), .unset] [])) _
    refine XS.iloadN X16.here hx rfl (hb hby d1_14) rfl ?_
    show Steps p.tables e below (T16.setTop (mkF m 15 #[.val (.ref a1), .val (.int (3 : Int32)), .val (.int s1), .unset] [(.int s1)])) _
    refine XS.iconst X16.here hx rfl (hb hby d1_15) ?_
    exact kt
  obtain ⟨v22, hv22⟩ : ∃ z : Int32, z = (if s1 = (-1 : Int32) then (3 : Int32) else ((3 : Int32) - (1 : Int32))) := ⟨_, rfl⟩
  have S21 : ∀ t, Steps p.tables e below (T16.setTop (mkF m 26 #[.val (.ref a1), .val (.int (3 : Int32)), .val (.int s1), .unset] [(.int v22)])) t → Steps p.tables e below (T16.setTop (mkF m 16 #[.val (.ref a1), .val (.int (3 : Int32)), .val (.int s1), .unset] [(.int (-1 : Int32)), (.int s1)])) t := by
    intro t kt
    subst hv22
    by_cases hc20 : s1 = (-1 : Int32)
    · simp only [if_pos hc20] at kt
      show Steps p.tables e below (T16.setTop (mkF m 16 #[.val (.ref a1), .val (.int (3 : Int32)), .val (.int s1), .unset] [(.int (-1 : Int32)), (.int s1)])) _
      refine XS.icmpNo X16.here hx rfl (hb hby d1_16) rfl (teq hc20).2 ?_
      show Steps p.tables e below (T16.setTop (mkF m 19 #[.val (.ref a1), .val (.int (3 : Int32)), .val (.int s1), .unset] [])) _
      refine XS.iloadN X16.here hx rfl (hb hby d1_19) rfl ?_
      show Steps p.tables e below (T16.setTop (mkF m 20 #[.val (.ref a1), .val (.int (3 : Int32)), .val (.int s1), .unset] [(.int (3 : Int32))])) _
      refine XS.goto X16.here hx rfl (pc0 := 20) (pc' := 26) rfl (hb hby d1_20) (by decide) (by decide) ?_
      exact kt
    · simp only [if_neg hc20] at kt
      show Steps p.tables e below (T16.setTop (mkF m 16 #[.val (.ref a1), .val (.int (3 : Int32)), .val (.int s1), .unset] [(.int (-1 : Int32)), (.int s1)])) _
      refine XS.icmpYes X16.here hx rfl (pc0 := 16) (pc' := 23) rfl (hb hby d1_16) rfl (feq hc20).2 (by decide) (by decide) ?_
      show Steps p.tables e below (T16.setTop (mkF m 23 #[.val (.ref a1), .val (.int (3 : Int32)), .val (.int s1), .unset] [])) _
      refine XS.iloadN X16.here hx rfl (hb hby d1_23) rfl ?_
      show Steps p.tables e below (T16.setTop (mkF m 24 #[.val (.ref a1), .val (.int (3 : Int32)), .val (.int s1), .unset] [(.int (3 : Int32))])) _
      refine XS.iconst X16.here hx rfl (hb hby d1_24) ?_
      show Steps p.tables e below (T16.setTop (mkF m 25 #[.val (.ref a1), .val (.int (3 : Int32)), .val (.int s1), .unset] [(.int (1 : Int32)), (.int (3 : Int32))])) _
      refine XS.isub X16.here hx rfl (hb hby d1_25) rfl ?_
      exact kt
  have S23 : ∀ t, Steps p.tables e below (T16.setTop (mkF m 29 #[.val (.ref a1), .val (.int (3 : Int32)), .val (.int s1), .val (.int v22)] [(.int v22), (.ref a1)])) t → Steps p.tables e below (T16.setTop (mkF m 26 #[.val (.ref a1), .val (.int (3 : Int32)), .val (.int s1), .unset] [(.int v22)])) t := by
    intro t kt
    show Steps p.tables e below (T16.setTop (mkF m 26 #[.val (.ref a1), .val (.int (3 : Int32)), .val (.int s1), .unset] [(.int v22)])) _
    refine XS.istoreN X16.here hx rfl (hb hby d1_26) rfl (l' := #[.val (.ref a1), .val (.int (3 : Int32)), .val (.int s1), .val (.int v22)]) rfl ?_
    show Steps p.tables e below (T16.setTop (mkF m 27 #[.val (.ref a1), .val (.int (3 : Int32)), .val (.int s1), .val (.int v22)] [])) _
    refine XS.aloadN X16.here hx rfl (hb hby d1_27) rfl rfl ?_
    show Steps p.tables e below (T16.setTop (mkF m 28 #[.val (.ref a1), .val (.int (3 : Int32)), .val (.int s1), .val (.int v22)] [(.ref a1)])) _
    refine XS.iloadN X16.here hx rfl (hb hby d1_28) rfl ?_
    exact kt
  obtain ⟨v26, hv26⟩ : ∃ z : Int64, z = (if v22 = (0 : Int32) then (9223372036854775807 : Int64) else (0 : Int64)) := ⟨_, rfl⟩
  have S25 : ∀ t, Steps p.tables e below (T16.setTop (mkF m 39 #[.val (.ref a1), .val (.int (3 : Int32)), .val (.int s1), .val (.int v22)] [(.long v26), (.ref a1)])) t → Steps p.tables e below (T16.setTop (mkF m 29 #[.val (.ref a1), .val (.int (3 : Int32)), .val (.int s1), .val (.int v22)] [(.int v22), (.ref a1)])) t := by
    intro t kt
    subst hv26
    by_cases hc24 : v22 = (0 : Int32)
    · simp only [if_pos hc24] at kt
      show Steps p.tables e below (T16.setTop (mkF m 29 #[.val (.ref a1), .val (.int (3 : Int32)), .val (.int s1), .val (.int v22)] [(.int v22), (.ref a1)])) _
      refine XS.ifNo X16.here hx rfl (hb hby d1_29) rfl ((if0 _ _).trans (teq hc24).2) ?_
      show Steps p.tables e below (T16.setTop (mkF m 32 #[.val (.ref a1), .val (.int (3 : Int32)), .val (.int s1), .val (.int v22)] [(.ref a1)])) _
      refine X16.ldc2Long hx hown (mvT hZ (hw _ (List.mem_of_getElem? (i := 43) rfl))) (g := (mkF m 32 #[.val (.ref a1), .val (.int (3 : Int32)), .val (.int s1), .val (.int v22)] [(.ref a1)])) rfl (hb hby d1_32) _ ?_
      show Steps p.tables e below (T16.setTop (mkF m 35 #[.val (.ref a1), .val (.int (3 : Int32)), .val (.int s1), .val (.int v22)] [(.long (9223372036854775807 : Int64)), (.ref a1)])) _
      refine XS.goto X16.here hx rfl (pc0 := 35) (pc' := 39) rfl (hb hby d1_35) (by decide) (by decide) ?_
      exact kt
    · simp only [if_neg hc24] at kt
      show Steps p.tables e below (T16.setTop (mkF m 29 #[.val (.ref a1), .val (.int (3 : Int32)), .val (.int s1), .val (.int v22)] [(.int v22), (.ref a1)])) _
      refine XS.ifYes X16.here hx rfl (pc0 := 29) (pc' := 38) rfl (hb hby d1_29) rfl ((if0 _ _).trans (feq hc24).2) (by decide) (by decide) ?_
      show Steps p.tables e below (T16.setTop (mkF m 38 #[.val (.ref a1), .val (.int (3 : Int32)), .val (.int s1), .val (.int v22)] [(.ref a1)])) _
      refine XS.lconst X16.here hx rfl (hb hby d1_38) ?_
      exact kt
  have f27 := ((F4.other W10 (Or.inr (slot_ne (Or.inl (hw _ (List.mem_of_getElem? (i := 14) rfl))) (Or.inr (hw _ (List.mem_of_getElem? (i := 10) rfl))) (by decide) (t := .long) (t' := .int) (by decide) (by decide)))).other W16 (Or.inr (slot_ne (Or.inl (hw _ (List.mem_of_getElem? (i := 14) rfl))) (Or.inr (hw _ (List.mem_of_getElem? (i := 12) rfl))) (by decide) (t := .long) (t' := .int) (by decide) (by decide))))
  have f28 := (f15.wr W16)
  obtain ⟨T29, h29, X29, e29, W29, st29⟩ := putF X16 hx hZ hown (host := "") (Or.inl (hw _ (List.mem_of_getElem? (i := 13) rfl))) Via.refl e16 f27 f28 (Or.inl (hw _ (List.mem_of_getElem? (i := 14) rfl))) (hw _ (List.mem_of_getElem? (i := 1) rfl)) (ty := .long) (by decide) rfl rfl (g := (mkF m 39 #[.val (.ref a1), .val (.int (3 : Int32)), .val (.int s1), .val (.int v22)] [(.long v26), (.ref a1)])) rfl rfl (hb hby d1_39)
  have z30 : n0 ≤ h29.size := Nat.le_trans z17 (Keep.of_wr W29).1
  have N31 := Fr.snoc X29 N18 g_a1
  have Fw29 := f27.same W29
  have S32 : ∀ t, Steps p.tables e below (T29.setTop (mkF m 44 #[.val (.ref a1), .val (.int (3 : Int32)), .val (.int s1), .val (.int v22)] [(.int v22), (.ref a1)])) t → Steps p.tables e below (T29.setTop (mkF m 42 #[.val (.ref a1), .val (.int (3 : Int32)), .val (.int s1), .val (.int v22)] [])) t := by
    intro t kt
    show Steps p.tables e below (T29.setTop (mkF m 42 #[.val (.ref a1), .val (.int (3 : Int32)), .val (.int s1), .val (.int v22)] [])) _
    refine XS.aloadN X29.here hx rfl (hb hby d1_42) rfl rfl ?_
    show Steps p.tables e below (T29.setTop (mkF m 43 #[.val (.ref a1), .val (.int (3 : Int32)), .val (.int s1), .val (.int v22)] [(.ref a1)])) _
    refine XS.iloadN X29.here hx rfl (hb hby d1_43) rfl ?_
    exact kt
  have f33 := (((F5.other W10 (Or.inr (slot_ne (Or.inl (hw _ (List.mem_of_getElem? (i := 16) rfl))) (Or.inr (hw _ (List.mem_of_getElem? (i := 10) rfl))) (by decide) (t := .int) (t' := .int) (by decide) (by decide)))).other W16 (Or.inr (slot_ne (Or.inl (hw _ (List.mem_of_getElem? (i := 16) rfl))) (Or.inr (hw _ (List.mem_of_getElem? (i := 12) rfl))) (by decide) (t := .int) (t' := .int) (by decide) (by decide)))).other W29 (Or.inr (slot_ne (Or.inl (hw _ (List.mem_of_getElem? (i := 16) rfl))) (Or.inl (hw _ (List.mem_of_getElem? (i := 14) rfl))) (by decide) (t := .int) (t' := .long) (by decide) (by decide))))
  have f34 := (f28.wr W29)
  obtain ⟨T35, h35, X35, e35, W35, st35⟩ := putF X29 hx hZ hown (host := "") (Or.inl (hw _ (List.mem_of_getElem? (i := 15) rfl))) Via.refl e29 f33 f34 (Or.inl (hw _ (List.mem_of_getElem? (i := 16) rfl))) (hw _ (List.mem_of_getElem? (i := 1) rfl)) (ty := .int) (by decide) rfl rfl (g := (mkF m 44 #[.val (.ref a1), .val (.int (3 : Int32)), .val (.int s1), .val (.int v22)] [(.int v22), (.ref a1)])) rfl rfl (hb hby d1_44)
  have z36 : n0 ≤ h35.size := Nat.le_trans z30 (Keep.of_wr W35).1
  have N37 := Fr.snoc X35 N31 g_a1
  have Fw35 := f33.same W35
  have C38 : ∀ t, Steps p.tables e below (T35.setTop (mkF m 47 #[.val (.ref a1), .val (.int (3 : Int32)), .val (.int s1), .val (.int v22)] [])) t → Steps p.tables e below (s₁.setTop (mkF m 0 #[.val (.ref a1), .val (.int (3 : Int32)), .val (.int s1), .unset] [])) t := (fun t k => (S7 t (st8 t (S9 t (st10 t (S13 t (st16 t (S19 t (S21 t (S23 t (S25 t (st29 t (S32 t (st35 t k))))))))))))))
  obtain ⟨fs, hr, hrun, hended, hW, hsame⟩ := X35.leave (v := none) (fun _ => rfl)
  refine ⟨_, _, pre0 _ (C38 _ ?_), hrun, hended, _, _, rfl, ?_, ⟨_, rfl⟩, hW, hsame.mono (by decide) (by decide)⟩
  · exact X35.returnOut hx Bd.returns (hb hby d1_47) hr
  · show Q_rm1 Z a1 s1 h0 n0 _ T35.heap _
    rw [e35]
    have f39 := (f34.wr W35)
    have f40 := (((Fw10.other W16 (Or.inr (slot_ne (Or.inr (hw _ (List.mem_of_getElem? (i := 10) rfl))) (Or.inr (hw _ (List.mem_of_getElem? (i := 12) rfl))) (by decide) (t := .int) (t' := .int) (by decide) (by decide)))).other W29 (Or.inr (slot_ne (Or.inr (hw _ (List.mem_of_getElem? (i := 10) rfl))) (Or.inl (hw _ (List.mem_of_getElem? (i := 14) rfl))) (by decide) (t := .int) (t' := .long) (by decide) (by decide)))).other W35 (Or.inr (slot_ne (Or.inr (hw _ (List.mem_of_getElem? (i := 10) rfl))) (Or.inl (hw _ (List.mem_of_getElem? (i := 16) rfl))) (by decide) (t := .int) (t' := .int) (by decide) (by decide))))
    have f41 := ((Fw16.other W29 (Or.inr (slot_ne (Or.inr (hw _ (List.mem_of_getElem? (i := 12) rfl))) (Or.inl (hw _ (List.mem_of_getElem? (i := 14) rfl))) (by decide) (t := .int) (t' := .long) (by decide) (by decide)))).other W35 (Or.inr (slot_ne (Or.inr (hw _ (List.mem_of_getElem? (i := 12) rfl))) (Or.inl (hw _ (List.mem_of_getElem? (i := 16) rfl))) (by decide) (t := .int) (t' := .int) (by decide) (by decide))))
    have f42 := (Fw29.other W35 (Or.inr (slot_ne (Or.inl (hw _ (List.mem_of_getElem? (i := 14) rfl))) (Or.inl (hw _ (List.mem_of_getElem? (i := 16) rfl))) (by decide) (t := .long) (t' := .int) (by decide) (by decide))))
    have f43 := ((((F6.other W10 (Or.inr (slot_ne (Or.inl (hw _ (List.mem_of_getElem? (i := 24) rfl))) (Or.inr (hw _ (List.mem_of_getElem? (i := 10) rfl))) (by decide) (t := (.array .long)) (t' := .int) (by decide) (by decide)))).other W16 (Or.inr (slot_ne (Or.inl (hw _ (List.mem_of_getElem? (i := 24) rfl))) (Or.inr (hw _ (List.mem_of_getElem? (i := 12) rfl))) (by decide) (t := (.array .long)) (t' := .int) (by decide) (by decide)))).other W29 (Or.inr (slot_ne (Or.inl (hw _ (List.mem_of_getElem? (i := 24) rfl))) (Or.inl (hw _ (List.mem_of_getElem? (i := 14) rfl))) (by decide) (t := (.array .long)) (t' := .long) (by decide) (by decide)))).other W35 (Or.inr (slot_ne (Or.inl (hw _ (List.mem_of_getElem? (i := 24) rfl))) (Or.inl (hw _ (List.mem_of_getElem? (i := 16) rfl))) (by decide) (t := (.array .long)) (t' := .int) (by decide) (by decide))))
    exact ⟨rfl, N37, (((((Keep.refl h0 [a1]).wr W10 (Or.inl (List.mem_of_getElem? (i := 0) rfl))).wr W16 (Or.inl (List.mem_of_getElem? (i := 0) rfl))).wr W29 (Or.inl (List.mem_of_getElem? (i := 0) rfl))).wr W35 (Or.inl (List.mem_of_getElem? (i := 0) rfl))), g_a1, f39, f40, f41, ⟨_, _, f42, Fw35⟩, Or.inl ⟨f43, fun _ _ => rfl⟩⟩
theorem ef_rm_start0 (m : MethodId) (x0 : Addr) (x1 : Int32) : entryFrame m #[(.ref x0), (.int x1)] 2 = mkF m 0 #[.val (.ref x0), .val (.int x1)] [] := by first | (simp [entryFrame, mkF, argsToLocals, Value.category]; done) | rfl
def Q_rm_start0 (Z : State) (a1 : Addr) (i1 : Int32) (h0 : Heap) (n0 : Nat) (v : Option Value) (h : Heap) (L : List Loc) : Prop := v = some (.long (0 : Int64)) ∧ Fr n0 L ∧ h = h0
set_option maxRecDepth 65536 in
set_option maxHeartbeats 40000000 in
theorem rm_start0 (l : Launch) (Z : State) (a0 : Array Value) (hw : ∀ d ∈ tables_1, d.before a0 Z = true) (ws : List Jvm.Cond) (a1 : Addr) (i1 : Int32) (h0 : Heap) (n0 : Nat) (Z0 : n0 ≤ h0.size) (F44 : Fld Z h0 a1 "com/example/totality/totality/core/Windows" "starts" "[J" .null) :
    MetFree l (⟨"com/example/totality/totality/core/Windows", "start", "(I)J"⟩ : MethodName) (head1 (Jvm.Cond.code (⟨"com/example/totality/totality/core/Windows", "start", "(I)J"⟩ : MethodName) prog_59_method_2_code 2 (some .long) :: ws) ({ frames := 0, cells := 0, slots := 0, locals := 0 } : Room)) (fun a U => a = #[(.ref a1), (.int i1)] ∧ Z.Warmed39 U.vm ∧ U.heap = h0) (fun _ _ _ _ _ => True) (fun _ U o U' => ∃ v L, o = .returned v ∧ Q_rm_start0 Z a1 i1 h0 n0 v U'.heap L ∧ FrameEnd U o U' L ({ frames := 0, cells := 0, slots := 0, locals := 0 } : Room).cells ({ frames := 0, cells := 0, slots := 0, locals := 0 } : Room).slots) := by
  refine MetFree.of_bodySF (plainFor_of_name pn_0) hisR ?_
  intro p e s m args below meth c s₁ Bd hml0 hP hK
  obtain ⟨rfl, hZ, hh⟩ := hP
  have hx := Bd.exec
  have hby := Bd.bytes
  have hml : c.maxLocals = 2 := hml0
  have hown : s.vm.findClass "com/example/totality/totality/core/Windows" = some m.cls := findClass_of_methodNamed Bd.named
  have hnm := (name_of_methodNamed Bd.named Bd.method).1
  have X0 : Stand p l e ({ frames := 0, cells := 0, slots := 0, locals := 0 } : Room) s m #[(.ref a1), (.int i1)] below meth c s₁ [] 0 0 := Stand.of_body Bd
  have e0 : s₁.heap = h0 := by rw [← hh, Bd.state]; rfl
  have N0 := Fr.nil n0
  have pre0 : ∀ t, Steps p.tables e below (s₁.setTop (mkF m 0 #[.val (.ref a1), .val (.int i1)] [])) t → Steps p.tables e below (s₁.setTop (entryFrame m #[(.ref a1), (.int i1)] 2)) t := fun t k => castTop (ef_rm_start0 m a1 i1) k
  have S45 : ∀ t, Steps p.tables e below (s₁.setTop (mkF m 1 #[.val (.ref a1), .val (.int i1)] [(.ref a1)])) t → Steps p.tables e below (s₁.setTop (mkF m 0 #[.val (.ref a1), .val (.int i1)] [])) t := by
    intro t kt
    show Steps p.tables e below (s₁.setTop (mkF m 0 #[.val (.ref a1), .val (.int i1)] [])) _
    refine XS.aloadN X0.here hx rfl (hb hby d3_0) rfl rfl ?_
    exact kt
  obtain ⟨T46, X46, e46, st46⟩ := getF X0 hx hZ hown (host := "") (Or.inl (hw _ (List.mem_of_getElem? (i := 23) rfl))) Via.refl e0 F44 (g := (mkF m 1 #[.val (.ref a1), .val (.int i1)] [(.ref a1)])) rfl rfl (hb hby d3_1)
  have S47 : ∀ t, Steps p.tables e below (T46.setTop (mkF m 17 #[.val (.ref a1), .val (.int i1)] [(.long (0 : Int64))])) t → Steps p.tables e below (T46.setTop (mkF m 4 #[.val (.ref a1), .val (.int i1)] [.null])) t := by
    intro t kt
    show Steps p.tables e below (T46.setTop (mkF m 4 #[.val (.ref a1), .val (.int i1)] [.null])) _
    refine XS.ifnonnullNo X46.here hx rfl (hb hby d3_4) rfl ?_
    show Steps p.tables e below (T46.setTop (mkF m 7 #[.val (.ref a1), .val (.int i1)] [])) _
    refine XS.lconst X46.here hx rfl (hb hby d3_7) ?_
    show Steps p.tables e below (T46.setTop (mkF m 8 #[.val (.ref a1), .val (.int i1)] [(.long (0 : Int64))])) _
    refine XS.goto X46.here hx rfl (pc0 := 8) (pc' := 17) rfl (hb hby d3_8) (by decide) (by decide) ?_
    exact kt
  have C48 : ∀ t, Steps p.tables e below (T46.setTop (mkF m 17 #[.val (.ref a1), .val (.int i1)] [(.long (0 : Int64))])) t → Steps p.tables e below (s₁.setTop (mkF m 0 #[.val (.ref a1), .val (.int i1)] [])) t := (fun t k => (S45 t (st46 t (S47 t k))))
  obtain ⟨fs, hr, hrun, hended, hW, hsame⟩ := X46.leave (v := some (.long (0 : Int64))) (fun h => by rw [Bd.returns] at h; cases h)
  refine ⟨_, _, pre0 _ (C48 _ ?_), hrun, hended, _, _, rfl, ?_, ⟨_, rfl⟩, hW, hsame.mono (by decide) (by decide)⟩
  · exact retOut X46 hx (t := .long) Bd.returns rfl (Or.inr (Or.inl ⟨rfl, rfl, _, rfl⟩)) (hb hby d3_17) hr
  · show Q_rm_start0 Z a1 i1 h0 n0 _ T46.heap _
    rw [e46]
    exact ⟨rfl, N0, rfl⟩
theorem ef_rm_start1 (m : MethodId) (x0 : Addr) (x1 : Int32) : entryFrame m #[(.ref x0), (.int x1)] 2 = mkF m 0 #[.val (.ref x0), .val (.int x1)] [] := by first | (simp [entryFrame, mkF, argsToLocals, Value.category]; done) | rfl
def Q_rm_start1 (Z : State) (a1 : Addr) (i1 : Int32) (t1 : Addr) (i : Nat) (vals : Nat → Int64) (h0 : Heap) (n0 : Nat) (v : Option Value) (h : Heap) (L : List Loc) : Prop := v = some (.long (vals i)) ∧ Fr n0 L ∧ h = h0
set_option maxRecDepth 65536 in
set_option maxHeartbeats 40000000 in
theorem rm_start1 (l : Launch) (Z : State) (a0 : Array Value) (hw : ∀ d ∈ tables_1, d.before a0 Z = true) (ws : List Jvm.Cond) (a1 : Addr) (i1 : Int32) (t1 : Addr) (i : Nat) (vals : Nat → Int64) (h0 : Heap) (n0 : Nat) (Z0 : n0 ≤ h0.size) (F49 : Fld Z h0 a1 "com/example/totality/totality/core/Windows" "starts" "[J" (.ref t1)) (F50 : ArF Z h0 t1 .long 3 (fun q => (.long (vals q)))) (hi : own_ix i1 i) :
    MetFree l (⟨"com/example/totality/totality/core/Windows", "start", "(I)J"⟩ : MethodName) (head1 (Jvm.Cond.code (⟨"com/example/totality/totality/core/Windows", "start", "(I)J"⟩ : MethodName) prog_59_method_2_code 2 (some .long) :: ws) ({ frames := 0, cells := 0, slots := 0, locals := 0 } : Room)) (fun a U => a = #[(.ref a1), (.int i1)] ∧ Z.Warmed39 U.vm ∧ U.heap = h0) (fun _ _ _ _ _ => True) (fun _ U o U' => ∃ v L, o = .returned v ∧ Q_rm_start1 Z a1 i1 t1 i vals h0 n0 v U'.heap L ∧ FrameEnd U o U' L ({ frames := 0, cells := 0, slots := 0, locals := 0 } : Room).cells ({ frames := 0, cells := 0, slots := 0, locals := 0 } : Room).slots) := by
  refine MetFree.of_bodySF (plainFor_of_name pn_0) hisR ?_
  intro p e s m args below meth c s₁ Bd hml0 hP hK
  obtain ⟨rfl, hZ, hh⟩ := hP
  have hx := Bd.exec
  have hby := Bd.bytes
  have hml : c.maxLocals = 2 := hml0
  have hown : s.vm.findClass "com/example/totality/totality/core/Windows" = some m.cls := findClass_of_methodNamed Bd.named
  have hnm := (name_of_methodNamed Bd.named Bd.method).1
  have X0 : Stand p l e ({ frames := 0, cells := 0, slots := 0, locals := 0 } : Room) s m #[(.ref a1), (.int i1)] below meth c s₁ [] 0 0 := Stand.of_body Bd
  have e0 : s₁.heap = h0 := by rw [← hh, Bd.state]; rfl
  have N0 := Fr.nil n0
  have pre0 : ∀ t, Steps p.tables e below (s₁.setTop (mkF m 0 #[.val (.ref a1), .val (.int i1)] [])) t → Steps p.tables e below (s₁.setTop (entryFrame m #[(.ref a1), (.int i1)] 2)) t := fun t k => castTop (ef_rm_start1 m a1 i1) k
  have S51 : ∀ t, Steps p.tables e below (s₁.setTop (mkF m 1 #[.val (.ref a1), .val (.int i1)] [(.ref a1)])) t → Steps p.tables e below (s₁.setTop (mkF m 0 #[.val (.ref a1), .val (.int i1)] [])) t := by
    intro t kt
    show Steps p.tables e below (s₁.setTop (mkF m 0 #[.val (.ref a1), .val (.int i1)] [])) _
    refine XS.aloadN X0.here hx rfl (hb hby d3_0) rfl rfl ?_
    exact kt
  obtain ⟨T52, X52, e52, st52⟩ := getF X0 hx hZ hown (host := "") (Or.inl (hw _ (List.mem_of_getElem? (i := 23) rfl))) Via.refl e0 F49 (g := (mkF m 1 #[.val (.ref a1), .val (.int i1)] [(.ref a1)])) rfl rfl (hb hby d3_1)
  have S53 : ∀ t, Steps p.tables e below (T52.setTop (mkF m 12 #[.val (.ref a1), .val (.int i1)] [(.ref a1)])) t → Steps p.tables e below (T52.setTop (mkF m 4 #[.val (.ref a1), .val (.int i1)] [(.ref t1)])) t := by
    intro t kt
    show Steps p.tables e below (T52.setTop (mkF m 4 #[.val (.ref a1), .val (.int i1)] [(.ref t1)])) _
    refine XS.ifnonnullYes X52.here hx rfl (pc0 := 4) (pc' := 11) rfl (hb hby d3_4) rfl (by decide) (by decide) ?_
    show Steps p.tables e below (T52.setTop (mkF m 11 #[.val (.ref a1), .val (.int i1)] [])) _
    refine XS.aloadN X52.here hx rfl (hb hby d3_11) rfl rfl ?_
    exact kt
  obtain ⟨T54, X54, e54, st54⟩ := getF X52 hx hZ hown (host := "") (Or.inl (hw _ (List.mem_of_getElem? (i := 23) rfl))) Via.refl e52 F49 (g := (mkF m 12 #[.val (.ref a1), .val (.int i1)] [(.ref a1)])) rfl rfl (hb hby d3_12)
  have S55 : ∀ t, Steps p.tables e below (T54.setTop (mkF m 17 #[.val (.ref a1), .val (.int i1)] [(.long (vals i))])) t → Steps p.tables e below (T54.setTop (mkF m 15 #[.val (.ref a1), .val (.int i1)] [(.ref t1)])) t := by
    intro t kt
    show Steps p.tables e below (T54.setTop (mkF m 15 #[.val (.ref a1), .val (.int i1)] [(.ref t1)])) _
    refine XS.iloadN X54.here hx rfl (hb hby d3_15) rfl ?_
    show Steps p.tables e below (T54.setTop (mkF m 16 #[.val (.ref a1), .val (.int i1)] [(.int i1), (.ref t1)])) _
    refine ArF.ldJ X54 hx hZ e54 F50 (i := i) hi.1 hi.2 (v := (vals i)) rfl (g := (mkF m 16 #[.val (.ref a1), .val (.int i1)] [(.int i1), (.ref t1)])) rfl rfl (hb hby d3_16) _ ?_
    exact kt
  have C56 : ∀ t, Steps p.tables e below (T54.setTop (mkF m 17 #[.val (.ref a1), .val (.int i1)] [(.long (vals i))])) t → Steps p.tables e below (s₁.setTop (mkF m 0 #[.val (.ref a1), .val (.int i1)] [])) t := (fun t k => (S51 t (st52 t (S53 t (st54 t (S55 t k))))))
  obtain ⟨fs, hr, hrun, hended, hW, hsame⟩ := X54.leave (v := some (.long (vals i))) (fun h => by rw [Bd.returns] at h; cases h)
  refine ⟨_, _, pre0 _ (C56 _ ?_), hrun, hended, _, _, rfl, ?_, ⟨_, rfl⟩, hW, hsame.mono (by decide) (by decide)⟩
  · exact retOut X54 hx (t := .long) Bd.returns rfl (Or.inr (Or.inl ⟨rfl, rfl, _, rfl⟩)) (hb hby d3_17) hr
  · show Q_rm_start1 Z a1 i1 t1 i vals h0 n0 _ T54.heap _
    rw [e54]
    exact ⟨rfl, N0, rfl⟩

def Q_start (Z : State) (a1 : Addr) (i1 : Int32) (i : Nat) (s1 : Int32) (vals : Nat → Int64) (h0 : Heap) (n0 : Nat) (v : Option Value) (h : Heap) (L : List Loc) : Prop := v = some (.long (vals i)) ∧ Fr n0 L ∧ h = h0
theorem rm_start (l : Launch) (Z : State) (a0 : Array Value) (hw : ∀ d ∈ tables_1, d.before a0 Z = true) (ws : List Jvm.Cond) (a1 : Addr) (i1 : Int32) (i : Nat) (s1 : Int32) (vals : Nat → Int64) (h0 : Heap) (n0 : Nat) (Z0 : n0 ≤ h0.size) (H : own_WS Z h0 n0 a1 s1 vals) (hi : own_ix i1 i) :
    MetFree l (⟨"com/example/totality/totality/core/Windows", "start", "(I)J"⟩ : MethodName) (head1 (Jvm.Cond.code (⟨"com/example/totality/totality/core/Windows", "start", "(I)J"⟩ : MethodName) prog_59_method_2_code 2 (some .long) :: ws) ({ frames := 0, cells := 0, slots := 0, locals := 0 } : Room)) (fun a U => a = #[(.ref a1), (.int i1)] ∧ Z.Warmed39 U.vm ∧ U.heap = h0) (fun _ _ _ _ _ => True) (fun _ U o U' => ∃ v L, o = .returned v ∧ Q_start Z a1 i1 i s1 vals h0 n0 v U'.heap L ∧ FrameEnd U o U' L ({ frames := 0, cells := 0, slots := 0, locals := 0 } : Room).cells ({ frames := 0, cells := 0, slots := 0, locals := 0 } : Room).slots) := by
  obtain ⟨-, -, -, -, -, ⟨q, z⟩ | ⟨t, -, -, q, A⟩⟩ := H
  · have := rm_start0 l Z a0 hw ws a1 i1 h0 n0 Z0 q
    unfold Q_start
    rw [z i hi.2]
    exact this
  · exact rm_start1 l Z a0 hw ws a1 i1 t i vals h0 n0 Z0 q A hi
theorem ef_rm4 (m : MethodId) (x0 : Int32) (x1 : Int32) : entryFrame m #[(.int x0), (.int x1)] 2 = mkF m 0 #[.val (.int x0), .val (.int x1)] [] := by first | (simp [entryFrame, mkF, argsToLocals, Value.category]; done) | rfl
def Q_rm4 (Z : State) (x1 : Int32) (s1 : Int32) (h0 : Heap) (n0 : Nat) (v : Option Value) (h : Heap) (L : List Loc) : Prop := v = some (.int (own_pick x1 s1)) ∧ Fr n0 L ∧ h = h0
set_option maxRecDepth 65536 in
set_option maxHeartbeats 40000000 in
theorem rm4 (l : Launch) (Z : State) (a0 : Array Value) (hw : ∀ d ∈ tables_1, d.before a0 Z = true) (ws : List Jvm.Cond) (x1 : Int32) (s1 : Int32) (h0 : Heap) (n0 : Nat) (Z0 : n0 ≤ h0.size)  :
    MetFree l (⟨"com/example/totality/totality/core/WindowsStartPinLaw", "pick", "(II)I"⟩ : MethodName) (head1 (Jvm.Cond.code (⟨"com/example/totality/totality/core/WindowsStartPinLaw", "pick", "(II)I"⟩ : MethodName) method_2_code 2 (some .int) :: ws) ({ frames := 0, cells := 0, slots := 0, locals := 0 } : Room)) (fun a U => a = #[(.int x1), (.int s1)] ∧ Z.Warmed39 U.vm ∧ U.heap = h0) (fun _ _ _ _ _ => True) (fun _ U o U' => ∃ v L, o = .returned v ∧ Q_rm4 Z x1 s1 h0 n0 v U'.heap L ∧ FrameEnd U o U' L ({ frames := 0, cells := 0, slots := 0, locals := 0 } : Room).cells ({ frames := 0, cells := 0, slots := 0, locals := 0 } : Room).slots) := by
  refine MetFree.of_bodySF (plainFor_of_name pn_1) hisR ?_
  intro p e s m args below meth c s₁ Bd hml0 hP hK
  obtain ⟨rfl, hZ, hh⟩ := hP
  have hx := Bd.exec
  have hby := Bd.bytes
  have hml : c.maxLocals = 2 := hml0
  have hown : s.vm.findClass "com/example/totality/totality/core/WindowsStartPinLaw" = some m.cls := findClass_of_methodNamed Bd.named
  have hnm := (name_of_methodNamed Bd.named Bd.method).1
  have X0 : Stand p l e ({ frames := 0, cells := 0, slots := 0, locals := 0 } : Room) s m #[(.int x1), (.int s1)] below meth c s₁ [] 0 0 := Stand.of_body Bd
  have e0 : s₁.heap = h0 := by rw [← hh, Bd.state]; rfl
  have N0 := Fr.nil n0
  have pre0 : ∀ t, Steps p.tables e below (s₁.setTop (mkF m 0 #[.val (.int x1), .val (.int s1)] [])) t → Steps p.tables e below (s₁.setTop (entryFrame m #[(.int x1), (.int s1)] 2)) t := fun t k => castTop (ef_rm4 m x1 s1) k
  have S57 : ∀ t, Steps p.tables e below (s₁.setTop (mkF m 2 #[.val (.int x1), .val (.int s1)] [(.int (-1 : Int32)), (.int s1)])) t → Steps p.tables e below (s₁.setTop (mkF m 0 #[.val (.int x1), .val (.int s1)] [])) t := by
    intro t kt
    show Steps p.tables e below (s₁.setTop (mkF m 0 #[.val (.int x1), .val (.int s1)] [])) _
    refine XS.iloadN X0.here hx rfl (hb hby d4_0) rfl ?_
    show Steps p.tables e below (s₁.setTop (mkF m 1 #[.val (.int x1), .val (.int s1)] [(.int s1)])) _
    refine XS.iconst X0.here hx rfl (hb hby d4_1) ?_
    exact kt
  by_cases hc58 : s1 = (-1 : Int32)
  · have S59 : ∀ t, Steps p.tables e below (s₁.setTop (mkF m 11 #[.val (.int x1), .val (.int s1)] [(.int ((x1 &&& (2147483647 : Int32)) % (3 : Int32)))])) t → Steps p.tables e below (s₁.setTop (mkF m 2 #[.val (.int x1), .val (.int s1)] [(.int (-1 : Int32)), (.int s1)])) t := by
      intro t kt
      show Steps p.tables e below (s₁.setTop (mkF m 2 #[.val (.int x1), .val (.int s1)] [(.int (-1 : Int32)), (.int s1)])) _
      refine XS.icmpNo X0.here hx rfl (hb hby d4_2) rfl (teq hc58).2 ?_
      show Steps p.tables e below (s₁.setTop (mkF m 5 #[.val (.int x1), .val (.int s1)] [])) _
      refine XS.iloadN X0.here hx rfl (hb hby d4_5) rfl ?_
      show Steps p.tables e below (s₁.setTop (mkF m 6 #[.val (.int x1), .val (.int s1)] [(.int x1)])) _
      refine X0.ldcInt hx hown (mvT hZ (hw _ (List.mem_of_getElem? (i := 17) rfl))) (g := (mkF m 6 #[.val (.int x1), .val (.int s1)] [(.int x1)])) rfl (hb hby d4_6) _ ?_
      show Steps p.tables e below (s₁.setTop (mkF m 8 #[.val (.int x1), .val (.int s1)] [(.int (2147483647 : Int32)), (.int x1)])) _
      refine XS.iand X0.here hx rfl (hb hby d4_8) rfl ?_
      show Steps p.tables e below (s₁.setTop (mkF m 9 #[.val (.int x1), .val (.int s1)] [(.int (x1 &&& (2147483647 : Int32)))])) _
      refine XS.iconst X0.here hx rfl (hb hby d4_9) ?_
      show Steps p.tables e below (s₁.setTop (mkF m 10 #[.val (.int x1), .val (.int s1)] [(.int (3 : Int32)), (.int (x1 &&& (2147483647 : Int32)))])) _
      refine iremM X0 hx rfl (hb hby d4_10) rfl (by decide) ?_
      exact kt
    have C60 : ∀ t, Steps p.tables e below (s₁.setTop (mkF m 11 #[.val (.int x1), .val (.int s1)] [(.int ((x1 &&& (2147483647 : Int32)) % (3 : Int32)))])) t → Steps p.tables e below (s₁.setTop (mkF m 0 #[.val (.int x1), .val (.int s1)] [])) t := (fun t k => (S57 t (S59 t k)))
    obtain ⟨fs, hr, hrun, hended, hW, hsame⟩ := X0.leave (v := some (.int ((x1 &&& (2147483647 : Int32)) % (3 : Int32)))) (fun h => by rw [Bd.returns] at h; cases h)
    refine ⟨_, _, pre0 _ (C60 _ ?_), hrun, hended, _, _, rfl, ?_, ⟨_, rfl⟩, hW, hsame.mono (by decide) (by decide)⟩
    · exact retOut X0 hx (t := .int) Bd.returns rfl (Or.inl ⟨rfl, Or.inl rfl, _, rfl⟩) (hb hby d4_11) hr
    · show Q_rm4 Z x1 s1 h0 n0 _ s₁.heap _
      rw [e0]
      exact ⟨by simp only [own_pick, if_pos hc58], N0, rfl⟩
  · have S61 : ∀ t, Steps p.tables e below (s₁.setTop (mkF m 21 #[.val (.int x1), .val (.int s1)] [(.int (((s1 + (1 : Int32)) + (x1 &&& (1 : Int32))) % (3 : Int32)))])) t → Steps p.tables e below (s₁.setTop (mkF m 2 #[.val (.int x1), .val (.int s1)] [(.int (-1 : Int32)), (.int s1)])) t := by
      intro t kt
      show Steps p.tables e below (s₁.setTop (mkF m 2 #[.val (.int x1), .val (.int s1)] [(.int (-1 : Int32)), (.int s1)])) _
      refine XS.icmpYes X0.here hx rfl (pc0 := 2) (pc' := 12) rfl (hb hby d4_2) rfl (feq hc58).2 (by decide) (by decide) ?_
      show Steps p.tables e below (s₁.setTop (mkF m 12 #[.val (.int x1), .val (.int s1)] [])) _
      refine XS.iloadN X0.here hx rfl (hb hby d4_12) rfl ?_
      show Steps p.tables e below (s₁.setTop (mkF m 13 #[.val (.int x1), .val (.int s1)] [(.int s1)])) _
      refine XS.iconst X0.here hx rfl (hb hby d4_13) ?_
      show Steps p.tables e below (s₁.setTop (mkF m 14 #[.val (.int x1), .val (.int s1)] [(.int (1 : Int32)), (.int s1)])) _
      refine XS.iadd X0.here hx rfl (hb hby d4_14) rfl ?_
      show Steps p.tables e below (s₁.setTop (mkF m 15 #[.val (.int x1), .val (.int s1)] [(.int (s1 + (1 : Int32)))])) _
      refine XS.iloadN X0.here hx rfl (hb hby d4_15) rfl ?_
      show Steps p.tables e below (s₁.setTop (mkF m 16 #[.val (.int x1), .val (.int s1)] [(.int x1), (.int (s1 + (1 : Int32)))])) _
      refine XS.iconst X0.here hx rfl (hb hby d4_16) ?_
      show Steps p.tables e below (s₁.setTop (mkF m 17 #[.val (.int x1), .val (.int s1)] [(.int (1 : Int32)), (.int x1), (.int (s1 + (1 : Int32)))])) _
      refine XS.iand X0.here hx rfl (hb hby d4_17) rfl ?_
      show Steps p.tables e below (s₁.setTop (mkF m 18 #[.val (.int x1), .val (.int s1)] [(.int (x1 &&& (1 : Int32))), (.int (s1 + (1 : Int32)))])) _
      refine XS.iadd X0.here hx rfl (hb hby d4_18) rfl ?_
      show Steps p.tables e below (s₁.setTop (mkF m 19 #[.val (.int x1), .val (.int s1)] [(.int ((s1 + (1 : Int32)) + (x1 &&& (1 : Int32))))])) _
      refine XS.iconst X0.here hx rfl (hb hby d4_19) ?_
      show Steps p.tables e below (s₁.setTop (mkF m 20 #[.val (.int x1), .val (.int s1)] [(.int (3 : Int32)), (.int ((s1 + (1 : Int32)) + (x1 &&& (1 : Int32))))])) _
      refine iremM X0 hx rfl (hb hby d4_20) rfl (by decide) ?_
      exact kt
    have C62 : ∀ t, Steps p.tables e below (s₁.setTop (mkF m 21 #[.val (.int x1), .val (.int s1)] [(.int (((s1 + (1 : Int32)) + (x1 &&& (1 : Int32))) % (3 : Int32)))])) t → Steps p.tables e below (s₁.setTop (mkF m 0 #[.val (.int x1), .val (.int s1)] [])) t := (fun t k => (S57 t (S61 t k)))
    obtain ⟨fs, hr, hrun, hended, hW, hsame⟩ := X0.leave (v := some (.int (((s1 + (1 : Int32)) + (x1 &&& (1 : Int32))) % (3 : Int32)))) (fun h => by rw [Bd.returns] at h; cases h)
    refine ⟨_, _, pre0 _ (C62 _ ?_), hrun, hended, _, _, rfl, ?_, ⟨_, rfl⟩, hW, hsame.mono (by decide) (by decide)⟩
    · exact retOut X0 hx (t := .int) Bd.returns rfl (Or.inl ⟨rfl, Or.inl rfl, _, rfl⟩) (hb hby d4_21) hr
    · show Q_rm4 Z x1 s1 h0 n0 _ s₁.heap _
      rw [e0]
      exact ⟨by simp only [own_pick, if_neg hc58], N0, rfl⟩
theorem ef_rm6 (m : MethodId) (x0 : Int32) (x1 : Int32) (x2 : Int64) (x3 : Int32) (x4 : Int64) : entryFrame m #[(.int x0), (.int x1), (.long x2), (.int x3), (.long x4)] 7 = mkF m 0 #[.val (.int x0), .val (.int x1), .val (.long x2), .second, .val (.int x3), .val (.long x4), .second] [] := by first | (simp [entryFrame, mkF, argsToLocals, Value.category]; done) | rfl
def Q_rm6 (Z : State) (k1 : Int32) (x1 : Int32) (q1 : Int64) (y1 : Int32) (q2 : Int64) (h0 : Heap) (n0 : Nat) (v : Option Value) (h : Heap) (L : List Loc) : Prop := v = some (.long (own_exp k1 x1 q1 y1 q2)) ∧ Fr n0 L ∧ h = h0
set_option maxRecDepth 65536 in
set_option maxHeartbeats 40000000 in
theorem rm6 (l : Launch) (Z : State) (a0 : Array Value) (hw : ∀ d ∈ tables_1, d.before a0 Z = true) (ws : List Jvm.Cond) (k1 : Int32) (x1 : Int32) (q1 : Int64) (y1 : Int32) (q2 : Int64) (h0 : Heap) (n0 : Nat) (Z0 : n0 ≤ h0.size)  :
    MetFree l (⟨"com/example/totality/totality/core/WindowsStartPinLaw", "expect", "(IIJIJ)J"⟩ : MethodName) (head1 (Jvm.Cond.code (⟨"com/example/totality/totality/core/WindowsStartPinLaw", "expect", "(IIJIJ)J"⟩ : MethodName) method_3_code 7 (some .long) :: ws) ({ frames := 0, cells := 0, slots := 0, locals := 0 } : Room)) (fun a U => a = #[(.int k1), (.int x1), (.long q1), (.int y1), (.long q2)] ∧ Z.Warmed39 U.vm ∧ U.heap = h0) (fun _ _ _ _ _ => True) (fun _ U o U' => ∃ v L, o = .returned v ∧ Q_rm6 Z k1 x1 q1 y1 q2 h0 n0 v U'.heap L ∧ FrameEnd U o U' L ({ frames := 0, cells := 0, slots := 0, locals := 0 } : Room).cells ({ frames := 0, cells := 0, slots := 0, locals := 0 } : Room).slots) := by
  refine MetFree.of_bodySF (plainFor_of_name pn_1) hisR ?_
  intro p e s m args below meth c s₁ Bd hml0 hP hK
  obtain ⟨rfl, hZ, hh⟩ := hP
  have hx := Bd.exec
  have hby := Bd.bytes
  have hml : c.maxLocals = 7 := hml0
  have hown : s.vm.findClass "com/example/totality/totality/core/WindowsStartPinLaw" = some m.cls := findClass_of_methodNamed Bd.named
  have hnm := (name_of_methodNamed Bd.named Bd.method).1
  have X0 : Stand p l e ({ frames := 0, cells := 0, slots := 0, locals := 0 } : Room) s m #[(.int k1), (.int x1), (.long q1), (.int y1), (.long q2)] below meth c s₁ [] 0 0 := Stand.of_body Bd
  have e0 : s₁.heap = h0 := by rw [← hh, Bd.state]; rfl
  have N0 := Fr.nil n0
  have pre0 : ∀ t, Steps p.tables e below (s₁.setTop (mkF m 0 #[.val (.int k1), .val (.int x1), .val (.long q1), .second, .val (.int y1), .val (.long q2), .second] [])) t → Steps p.tables e below (s₁.setTop (entryFrame m #[(.int k1), (.int x1), (.long q1), (.int y1), (.long q2)] 7)) t := fun t k => castTop (ef_rm6 m k1 x1 q1 y1 q2) k
  have S63 : ∀ t, Steps p.tables e below (s₁.setTop (mkF m 3 #[.val (.int k1), .val (.int x1), .val (.long q1), .second, .val (.int y1), .val (.long q2), .second] [(.int y1), (.int k1)])) t → Steps p.tables e below (s₁.setTop (mkF m 0 #[.val (.int k1), .val (.int x1), .val (.long q1), .second, .val (.int y1), .val (.long q2), .second] [])) t := by
    intro t kt
    show Steps p.tables e below (s₁.setTop (mkF m 0 #[.val (.int k1), .val (.int x1), .val (.long q1), .second, .val (.int y1), .val (.long q2), .second] [])) _
    refine XS.iloadN X0.here hx rfl (hb hby d6_0) rfl ?_
    show Steps p.tables e below (s₁.setTop (mkF m 1 #[.val (.int k1), .val (.int x1), .val (.long q1), .second, .val (.int y1), .val (.long q2), .second] [(.int k1)])) _
    refine XS.iload X0.here hx rfl (hb hby d6_1) rfl ?_
    exact kt
  by_cases hc64 : k1 = y1
  · have S65 : ∀ t, Steps p.tables e below (s₁.setTop (mkF m 8 #[.val (.int k1), .val (.int x1), .val (.long q1), .second, .val (.int y1), .val (.long q2), .second] [(.long q2)])) t → Steps p.tables e below (s₁.setTop (mkF m 3 #[.val (.int k1), .val (.int x1), .val (.long q1), .second, .val (.int y1), .val (.long q2), .second] [(.int y1), (.int k1)])) t := by
      intro t kt
      show Steps p.tables e below (s₁.setTop (mkF m 3 #[.val (.int k1), .val (.int x1), .val (.long q1), .second, .val (.int y1), .val (.long q2), .second] [(.int y1), (.int k1)])) _
      refine XS.icmpNo X0.here hx rfl (hb hby d6_3) rfl (teq hc64).2 ?_
      show Steps p.tables e below (s₁.setTop (mkF m 6 #[.val (.int k1), .val (.int x1), .val (.long q1), .second, .val (.int y1), .val (.long q2), .second] [])) _
      refine XS.lload X0.here hx rfl (hb hby d6_6) rfl ?_
      exact kt
    have C66 : ∀ t, Steps p.tables e below (s₁.setTop (mkF m 8 #[.val (.int k1), .val (.int x1), .val (.long q1), .second, .val (.int y1), .val (.long q2), .second] [(.long q2)])) t → Steps p.tables e below (s₁.setTop (mkF m 0 #[.val (.int k1), .val (.int x1), .val (.long q1), .second, .val (.int y1), .val (.long q2), .second] [])) t := (fun t k => (S63 t (S65 t k)))
    obtain ⟨fs, hr, hrun, hended, hW, hsame⟩ := X0.leave (v := some (.long q2)) (fun h => by rw [Bd.returns] at h; cases h)
    refine ⟨_, _, pre0 _ (C66 _ ?_), hrun, hended, _, _, rfl, ?_, ⟨_, rfl⟩, hW, hsame.mono (by decide) (by decide)⟩
    · exact retOut X0 hx (t := .long) Bd.returns rfl (Or.inr (Or.inl ⟨rfl, rfl, _, rfl⟩)) (hb hby d6_8) hr
    · show Q_rm6 Z k1 x1 q1 y1 q2 h0 n0 _ s₁.heap _
      rw [e0]
      exact ⟨by simp only [own_exp, if_pos hc64], N0, rfl⟩
  · have S67 : ∀ t, Steps p.tables e below (s₁.setTop (mkF m 11 #[.val (.int k1), .val (.int x1), .val (.long q1), .second, .val (.int y1), .val (.long q2), .second] [(.int x1), (.int k1)])) t → Steps p.tables e below (s₁.setTop (mkF m 3 #[.val (.int k1), .val (.int x1), .val (.long q1), .second, .val (.int y1), .val (.long q2), .second] [(.int y1), (.int k1)])) t := by
      intro t kt
      show Steps p.tables e below (s₁.setTop (mkF m 3 #[.val (.int k1), .val (.int x1), .val (.long q1), .second, .val (.int y1), .val (.long q2), .second] [(.int y1), (.int k1)])) _
      refine XS.icmpYes X0.here hx rfl (pc0 := 3) (pc' := 9) rfl (hb hby d6_3) rfl (feq hc64).2 (by decide) (by decide) ?_
      show Steps p.tables e below (s₁.setTop (mkF m 9 #[.val (.int k1), .val (.int x1), .val (.long q1), .second, .val (.int y1), .val (.long q2), .second] [])) _
      refine XS.iloadN X0.here hx rfl (hb hby d6_9) rfl ?_
      show Steps p.tables e below (s₁.setTop (mkF m 10 #[.val (.int k1), .val (.int x1), .val (.long q1), .second, .val (.int y1), .val (.long q2), .second] [(.int k1)])) _
      refine XS.iloadN X0.here hx rfl (hb hby d6_10) rfl ?_
      exact kt
    by_cases hc68 : k1 = x1
    · have S69 : ∀ t, Steps p.tables e below (s₁.setTop (mkF m 15 #[.val (.int k1), .val (.int x1), .val (.long q1), .second, .val (.int y1), .val (.long q2), .second] [(.long q1)])) t → Steps p.tables e below (s₁.setTop (mkF m 11 #[.val (.int k1), .val (.int x1), .val (.long q1), .second, .val (.int y1), .val (.long q2), .second] [(.int x1), (.int k1)])) t := by
        intro t kt
        show Steps p.tables e below (s₁.setTop (mkF m 11 #[.val (.int k1), .val (.int x1), .val (.long q1), .second, .val (.int y1), .val (.long q2), .second] [(.int x1), (.int k1)])) _
        refine XS.icmpNo X0.here hx rfl (hb hby d6_11) rfl (teq hc68).2 ?_
        show Steps p.tables e below (s₁.setTop (mkF m 14 #[.val (.int k1), .val (.int x1), .val (.long q1), .second, .val (.int y1), .val (.long q2), .second] [])) _
        refine XS.lloadN X0.here hx rfl (hb hby d6_14) rfl ?_
        exact kt
      have C70 : ∀ t, Steps p.tables e below (s₁.setTop (mkF m 15 #[.val (.int k1), .val (.int x1), .val (.long q1), .second, .val (.int y1), .val (.long q2), .second] [(.long q1)])) t → Steps p.tables e below (s₁.setTop (mkF m 0 #[.val (.int k1), .val (.int x1), .val (.long q1), .second, .val (.int y1), .val (.long q2), .second] [])) t := (fun t k => (S63 t (S67 t (S69 t k))))
      obtain ⟨fs, hr, hrun, hended, hW, hsame⟩ := X0.leave (v := some (.long q1)) (fun h => by rw [Bd.returns] at h; cases h)
      refine ⟨_, _, pre0 _ (C70 _ ?_), hrun, hended, _, _, rfl, ?_, ⟨_, rfl⟩, hW, hsame.mono (by decide) (by decide)⟩
      · exact retOut X0 hx (t := .long) Bd.returns rfl (Or.inr (Or.inl ⟨rfl, rfl, _, rfl⟩)) (hb hby d6_15) hr
      · show Q_rm6 Z k1 x1 q1 y1 q2 h0 n0 _ s₁.heap _
        rw [e0]
        exact ⟨by simp only [own_exp, if_neg hc64, if_pos hc68], N0, rfl⟩
    · have S71 : ∀ t, Steps p.tables e below (s₁.setTop (mkF m 17 #[.val (.int k1), .val (.int x1), .val (.long q1), .second, .val (.int y1), .val (.long q2), .second] [(.long (0 : Int64))])) t → Steps p.tables e below (s₁.setTop (mkF m 11 #[.val (.int k1), .val (.int x1), .val (.long q1), .second, .val (.int y1), .val (.long q2), .second] [(.int x1), (.int k1)])) t := by
        intro t kt
        show Steps p.tables e below (s₁.setTop (mkF m 11 #[.val (.int k1), .val (.int x1), .val (.long q1), .second, .val (.int y1), .val (.long q2), .second] [(.int x1), (.int k1)])) _
        refine XS.icmpYes X0.here hx rfl (pc0 := 11) (pc' := 16) rfl (hb hby d6_11) rfl (feq hc68).2 (by decide) (by decide) ?_
        show Steps p.tables e below (s₁.setTop (mkF m 16 #[.val (.int k1), .val (.int x1), .val (.long q1), .second, .val (.int y1), .val (.long q2), .second] [])) _
        refine XS.lconst X0.here hx rfl (hb hby d6_16) ?_
        exact kt
      have C72 : ∀ t, Steps p.tables e below (s₁.setTop (mkF m 17 #[.val (.int k1), .val (.int x1), .val (.long q1), .second, .val (.int y1), .val (.long q2), .second] [(.long (0 : Int64))])) t → Steps p.tables e below (s₁.setTop (mkF m 0 #[.val (.int k1), .val (.int x1), .val (.long q1), .second, .val (.int y1), .val (.long q2), .second] [])) t := (fun t k => (S63 t (S67 t (S71 t k))))
      obtain ⟨fs, hr, hrun, hended, hW, hsame⟩ := X0.leave (v := some (.long (0 : Int64))) (fun h => by rw [Bd.returns] at h; cases h)
      refine ⟨_, _, pre0 _ (C72 _ ?_), hrun, hended, _, _, rfl, ?_, ⟨_, rfl⟩, hW, hsame.mono (by decide) (by decide)⟩
      · exact retOut X0 hx (t := .long) Bd.returns rfl (Or.inr (Or.inl ⟨rfl, rfl, _, rfl⟩)) (hb hby d6_17) hr
      · show Q_rm6 Z k1 x1 q1 y1 q2 h0 n0 _ s₁.heap _
        rw [e0]
        exact ⟨by simp only [own_exp, if_neg hc64, if_neg hc68], N0, rfl⟩
theorem ef_rm7 (m : MethodId) (x0 : Addr) : entryFrame m #[(.ref x0)] 2 = mkF m 0 #[.val (.ref x0), .unset] [] := by first | (simp [entryFrame, mkF, argsToLocals, Value.category]; done) | rfl
def Q_rm7 (Z : State) (a1 : Addr) (t1 : Addr) (s1 : Int32) (lo1 : Int64) (al1 : Int32) (vals : Nat → Int64) (h0 : Heap) (n0 : Nat) (v : Option Value) (h : Heap) (L : List Loc) : Prop := v = none ∧ Fr n0 L ∧ Keep h0 h [a1] ∧ Fld Z h a1 "com/example/totality/totality/core/Windows" "nodes" "I" (.int (3 : Int32)) ∧ Fld Z h a1 "com/example/totality/totality/core/Windows" "self" "I" (.int s1) ∧ Fld Z h a1 "com/example/totality/totality/core/Windows" "starts" "[J" (.ref t1) ∧ ∃ (lo : Int64) (al : Int32), Fld Z h a1 "com/example/totality/totality/core/Windows" "lowest" "J" (.long lo) ∧ Fld Z h a1 "com/example/totality/totality/core/Windows" "atLowest" "I" (.int al)
set_option maxRecDepth 65536 in
set_option maxHeartbeats 40000000 in
theorem rm7 (l : Launch) (Z : State) (a0 : Array Value) (hw : ∀ d ∈ tables_1, d.before a0 Z = true) (ws : List Jvm.Cond) (a1 : Addr) (t1 : Addr) (s1 : Int32) (lo1 : Int64) (al1 : Int32) (vals : Nat → Int64) (h0 : Heap) (n0 : Nat) (Z0 : n0 ≤ h0.size) (F73 : Exa Z h0 a1 "com/example/totality/totality/core/Windows") (F74 : Fld Z h0 a1 "com/example/totality/totality/core/Windows" "nodes" "I" (.int (3 : Int32))) (F75 : Fld Z h0 a1 "com/example/totality/totality/core/Windows" "self" "I" (.int s1)) (F76 : Fld Z h0 a1 "com/example/totality/totality/core/Windows" "lowest" "J" (.long lo1)) (F77 : Fld Z h0 a1 "com/example/totality/totality/core/Windows" "atLowest" "I" (.int al1)) (F78 : Fld Z h0 a1 "com/example/totality/totality/core/Windows" "starts" "[J" (.ref t1)) (F79 : ArF Z h0 t1 .long 3 (fun q => (.long (vals q)))) (g_a1 : n0 ≤ a1) (ne_a1_t1 : a1 ≠ t1) :
    MetFree l (⟨"com/example/totality/totality/core/Windows", "count", "()V"⟩ : MethodName) (head1 (Jvm.Cond.code (⟨"com/example/totality/totality/core/Windows", "count", "()V"⟩ : MethodName) prog_59_method_5_code 2 none :: ws) ({ frames := 0, cells := 0, slots := 0, locals := 0 } : Room)) (fun a U => a = #[(.ref a1)] ∧ Z.Warmed39 U.vm ∧ U.heap = h0) (fun _ _ _ _ _ => True) (fun _ U o U' => ∃ v L, o = .returned v ∧ Q_rm7 Z a1 t1 s1 lo1 al1 vals h0 n0 v U'.heap L ∧ FrameEnd U o U' L ({ frames := 0, cells := 0, slots := 0, locals := 0 } : Room).cells ({ frames := 0, cells := 0, slots := 0, locals := 0 } : Room).slots) := by
  refine MetFree.of_bodySF (plainFor_of_name pn_0) hisR ?_
  intro p e s m args below meth c s₁ Bd hml0 hP hK
  obtain ⟨rfl, hZ, hh⟩ := hP
  have hx := Bd.exec
  have hby := Bd.bytes
  have hml : c.maxLocals = 2 := hml0
  have hown : s.vm.findClass "com/example/totality/totality/core/Windows" = some m.cls := findClass_of_methodNamed Bd.named
  have hnm := (name_of_methodNamed Bd.named Bd.method).1
  have X0 : Stand p l e ({ frames := 0, cells := 0, slots := 0, locals := 0 } : Room) s m #[(.ref a1)] below meth c s₁ [] 0 0 := Stand.of_body Bd
  have e0 : s₁.heap = h0 := by rw [← hh, Bd.state]; rfl
  have N0 := Fr.nil n0
  have pre0 : ∀ t, Steps p.tables e below (s₁.setTop (mkF m 0 #[.val (.ref a1), .unset] [])) t → Steps p.tables e below (s₁.setTop (entryFrame m #[(.ref a1)] 2)) t := fun t k => castTop (ef_rm7 m a1) k
  have S80 : ∀ t, Steps p.tables e below (s₁.setTop (mkF m 4 #[.val (.ref a1), .unset] [(.long (9223372036854775807 : Int64)), (.ref a1)])) t → Steps p.tables e below (s₁.setTop (mkF m 0 #[.val (.ref a1), .unset] [])) t := by
    intro t kt
    show Steps p.tables e below (s₁.setTop (mkF m 0 #[.val (.ref a1), .unset] [])) _
    refine XS.aloadN X0.here hx rfl (hb hby d7_0) rfl rfl ?_
    show Steps p.tables e below (s₁.setTop (mkF m 1 #[.val (.ref a1), .unset] [(.ref a1)])) _
    refine X0.ldc2Long hx hown (mvT hZ (hw _ (List.mem_of_getElem? (i := 43) rfl))) (g := (mkF m 1 #[.val (.ref a1), .unset] [(.ref a1)])) rfl (hb hby d7_1) _ ?_
    exact kt
  obtain ⟨T81, h81, X81, e81, W81, st81⟩ := putF X0 hx hZ hown (host := "") (Or.inl (hw _ (List.mem_of_getElem? (i := 13) rfl))) Via.refl e0 F76 F73 (Or.inl (hw _ (List.mem_of_getElem? (i := 14) rfl))) (hw _ (List.mem_of_getElem? (i := 1) rfl)) (ty := .long) (by decide) rfl rfl (g := (mkF m 4 #[.val (.ref a1), .unset] [(.long (9223372036854775807 : Int64)), (.ref a1)])) rfl rfl (hb hby d7_4)
  have z82 : n0 ≤ h81.size := Nat.le_trans Z0 (Keep.of_wr W81).1
  have N83 := Fr.snoc X81 N0 g_a1
  have Fw81 := F76.same W81
  have S84 : ∀ t, Steps p.tables e below (T81.setTop (mkF m 9 #[.val (.ref a1), .unset] [(.int (0 : Int32)), (.ref a1)])) t → Steps p.tables e below (T81.setTop (mkF m 7 #[.val (.ref a1), .unset] [])) t := by
    intro t kt
    show Steps p.tables e below (T81.setTop (mkF m 7 #[.val (.ref a1), .unset] [])) _
    refine XS.aloadN X81.here hx rfl (hb hby d7_7) rfl rfl ?_
    show Steps p.tables e below (T81.setTop (mkF m 8 #[.val (.ref a1), .unset] [(.ref a1)])) _
    refine XS.iconst X81.here hx rfl (hb hby d7_8) ?_
    exact kt
  have f85 := (F77.other W81 (Or.inr (slot_ne (Or.inl (hw _ (List.mem_of_getElem? (i := 16) rfl))) (Or.inl (hw _ (List.mem_of_getElem? (i := 14) rfl))) (by decide) (t := .int) (t' := .long) (by decide) (by decide))))
  have f86 := (F73.wr W81)
  obtain ⟨T87, h87, X87, e87, W87, st87⟩ := putF X81 hx hZ hown (host := "") (Or.inl (hw _ (List.mem_of_getElem? (i := 15) rfl))) Via.refl e81 f85 f86 (Or.inl (hw _ (List.mem_of_getElem? (i := 16) rfl))) (hw _ (List.mem_of_getElem? (i := 1) rfl)) (ty := .int) (by decide) rfl rfl (g := (mkF m 9 #[.val (.ref a1), .unset] [(.int (0 : Int32)), (.ref a1)])) rfl rfl (hb hby d7_9)
  have z88 : n0 ≤ h87.size := Nat.le_trans z82 (Keep.of_wr W87).1
  have N89 := Fr.snoc X87 N83 g_a1
  have Fw87 := f85.same W87
  have S90 : ∀ t, Steps p.tables e below (T87.setTop (mkF m 16 #[.val (.ref a1), .val (.int (0 : Int32))] [(.ref a1), (.int (0 : Int32))])) t → Steps p.tables e below (T87.setTop (mkF m 12 #[.val (.ref a1), .unset] [])) t := by
    intro t kt
    show Steps p.tables e below (T87.setTop (mkF m 12 #[.val (.ref a1), .unset] [])) _
    refine XS.iconst X87.here hx rfl (hb hby d7_12) ?_
    show Steps p.tables e below (T87.setTop (mkF m 13 #[.val (.ref a1), .unset] [(.int (0 : Int32))])) _
    refine XS.istoreN X87.here hx rfl (hb hby d7_13) rfl (l' := #[.val (.ref a1), .val (.int (0 : Int32))]) rfl ?_
    show Steps p.tables e below (T87.setTop (mkF m 14 #[.val (.ref a1), .val (.int (0 : Int32))] [])) _
    refine XS.iloadN X87.here hx rfl (hb hby d7_14) rfl ?_
    show Steps p.tables e below (T87.setTop (mkF m 15 #[.val (.ref a1), .val (.int (0 : Int32))] [(.int (0 : Int32))])) _
    refine XS.aloadN X87.here hx rfl (hb hby d7_15) rfl rfl ?_
    exact kt
  have f91 := ((F74.other W81 (Or.inr (slot_ne (Or.inr (hw _ (List.mem_of_getElem? (i := 10) rfl))) (Or.inl (hw _ (List.mem_of_getElem? (i := 14) rfl))) (by decide) (t := .int) (t' := .long) (by decide) (by decide)))).other W87 (Or.inr (slot_ne (Or.inr (hw _ (List.mem_of_getElem? (i := 10) rfl))) (Or.inl (hw _ (List.mem_of_getElem? (i := 16) rfl))) (by decide) (t := .int) (t' := .int) (by decide) (by decide))))
  obtain ⟨T92, X92, e92, st92⟩ := getF X87 hx hZ hown (host := "") (Or.inl (hw _ (List.mem_of_getElem? (i := 9) rfl))) Via.refl e87 f91 (g := (mkF m 16 #[.val (.ref a1), .val (.int (0 : Int32))] [(.ref a1), (.int (0 : Int32))])) rfl rfl (hb hby d7_16)
  have S95 : ∀ t, Steps p.tables e below (T92.setTop (mkF m 22 #[.val (.ref a1), .val (.int (0 : Int32))] [])) t → Steps p.tables e below (T92.setTop (mkF m 19 #[.val (.ref a1), .val (.int (0 : Int32))] [(.int (3 : Int32)), (.int (0 : Int32))])) t := by
    intro t kt
    show Steps p.tables e below (T92.setTop (mkF m 19 #[.val (.ref a1), .val (.int (0 : Int32))] [(.int (3 : Int32)), (.int (0 : Int32))])) _
    refine XS.icmpNo X92.here hx rfl (hb hby d7_19) rfl (tlt (by decide)).2.1 ?_
    exact kt
  obtain ⟨T96, h96, L96, lo93, al94, X96, e96, N96, Z96, K96, F97, F98, F99, F100, F101, F102, F103, J96⟩ : ∃ (T96 : State) (h96 : Heap) (L96 : List Loc) (lo93 : Int64) (al94 : Int32), Stand p l e ({ frames := 0, cells := 0, slots := 0, locals := 0 } : Room) s m #[(.ref a1)] below meth c T96 L96 0 0 ∧ T96.heap = h96 ∧ Fr n0 L96 ∧ n0 ≤ h96.size ∧ Keep h0 h96 [a1] ∧ Exa Z h96 a1 "com/example/totality/totality/core/Windows" ∧ Fld Z h96 a1 "com/example/totality/totality/core/Windows" "nodes" "I" (.int (3 : Int32)) ∧ Fld Z h96 a1 "com/example/totality/totality/core/Windows" "self" "I" (.int s1) ∧ Fld Z h96 a1 "com/example/totality/totality/core/Windows" "lowest" "J" (.long lo93) ∧ Fld Z h96 a1 "com/example/totality/totality/core/Windows" "atLowest" "I" (.int al94) ∧ Fld Z h96 a1 "com/example/totality/totality/core/Windows" "starts" "[J" (.ref t1) ∧ ArF Z h96 t1 .long 3 (fun q => (.long (vals q))) ∧ ∀ t, Steps p.tables e below (T96.setTop (mkF m 89 #[.val (.ref a1), .val (.int (0 : Int32))] [])) t → Steps p.tables e below (T92.setTop (mkF m 22 #[.val (.ref a1), .val (.int (0 : Int32))] [])) t := by
    have S104 : ∀ t, Steps p.tables e below (T92.setTop (mkF m 24 #[.val (.ref a1), .val (.int (0 : Int32))] [(.ref a1), (.int (0 : Int32))])) t → Steps p.tables e below (T92.setTop (mkF m 22 #[.val (.ref a1), .val (.int (0 : Int32))] [])) t := by
      intro t kt
      show Steps p.tables e below (T92.setTop (mkF m 22 #[.val (.ref a1), .val (.int (0 : Int32))] [])) _
      refine XS.iloadN X92.here hx rfl (hb hby d7_22) rfl ?_
      show Steps p.tables e below (T92.setTop (mkF m 23 #[.val (.ref a1), .val (.int (0 : Int32))] [(.int (0 : Int32))])) _
      refine XS.aloadN X92.here hx rfl (hb hby d7_23) rfl rfl ?_
      exact kt
    have f105 := ((F75.other W81 (Or.inr (slot_ne (Or.inr (hw _ (List.mem_of_getElem? (i := 12) rfl))) (Or.inl (hw _ (List.mem_of_getElem? (i := 14) rfl))) (by decide) (t := .int) (t' := .long) (by decide) (by decide)))).other W87 (Or.inr (slot_ne (Or.inr (hw _ (List.mem_of_getElem? (i := 12) rfl))) (Or.inl (hw _ (List.mem_of_getElem? (i := 16) rfl))) (by decide) (t := .int) (t' := .int) (by decide) (by decide))))
    obtain ⟨T106, X106, e106, st106⟩ := getF X92 hx hZ hown (host := "") (Or.inl (hw _ (List.mem_of_getElem? (i := 11) rfl))) Via.refl e92 f105 (g := (mkF m 24 #[.val (.ref a1), .val (.int (0 : Int32))] [(.ref a1), (.int (0 : Int32))])) rfl rfl (hb hby d7_24)
    by_cases hc107 : (0 : Int32) = s1
    · have f108 := (f86.wr W87)
      have f109 := (Fw81.other W87 (Or.inr (slot_ne (Or.inl (hw _ (List.mem_of_getElem? (i := 14) rfl))) (Or.inl (hw _ (List.mem_of_getElem? (i := 16) rfl))) (by decide) (t := .long) (t' := .int) (by decide) (by decide))))
      have f110 := ((F78.other W81 (Or.inr (slot_ne (Or.inl (hw _ (List.mem_of_getElem? (i := 24) rfl))) (Or.inl (hw _ (List.mem_of_getElem? (i := 14) rfl))) (by decide) (t := (.array .long)) (t' := .long) (by decide) (by decide)))).other W87 (Or.inr (slot_ne (Or.inl (hw _ (List.mem_of_getElem? (i := 24) rfl))) (Or.inl (hw _ (List.mem_of_getElem? (i := 16) rfl))) (by decide) (t := (.array .long)) (t' := .int) (by decide) (by decide))))
      have f111 := ((F79.other W81 (Ne.symm ne_a1_t1)).other W87 (Ne.symm ne_a1_t1))
      have S112 : ∀ t, Steps p.tables e below (T106.setTop (mkF m 89 #[.val (.ref a1), .val (.int (0 : Int32))] [])) t → Steps p.tables e below (T106.setTop (mkF m 27 #[.val (.ref a1), .val (.int (0 : Int32))] [(.int s1), (.int (0 : Int32))])) t := by
        intro t kt
        show Steps p.tables e below (T106.setTop (mkF m 27 #[.val (.ref a1), .val (.int (0 : Int32))] [(.int s1), (.int (0 : Int32))])) _
        refine XS.icmpNo X106.here hx rfl (hb hby d7_27) rfl (teq hc107).2 ?_
        show Steps p.tables e below (T106.setTop (mkF m 30 #[.val (.ref a1), .val (.int (0 : Int32))] [])) _
        refine XS.goto X106.here hx rfl (pc0 := 30) (pc' := 89) rfl (hb hby d7_30) (by decide) (by decide) ?_
        exact kt
      exact ⟨T106, h87, _, (9223372036854775807 : Int64), (0 : Int32), X106, e106, N89, z88, (((Keep.refl h0 [a1]).wr W81 (Or.inl (List.mem_of_getElem? (i := 0) rfl))).wr W87 (Or.inl (List.mem_of_getElem? (i := 0) rfl))), f108, f91, f105, f109, Fw87, f110, f111, (fun t k => (S104 t (st106 t (S112 t k))))⟩
    · have S113 : ∀ t, Steps p.tables e below (T106.setTop (mkF m 34 #[.val (.ref a1), .val (.int (0 : Int32))] [(.ref a1)])) t → Steps p.tables e below (T106.setTop (mkF m 27 #[.val (.ref a1), .val (.int (0 : Int32))] [(.int s1), (.int (0 : Int32))])) t := by
        intro t kt
        show Steps p.tables e below (T106.setTop (mkF m 27 #[.val (.ref a1), .val (.int (0 : Int32))] [(.int s1), (.int (0 : Int32))])) _
        refine XS.icmpYes X106.here hx rfl (pc0 := 27) (pc' := 33) rfl (hb hby d7_27) rfl (feq hc107).2 (by decide) (by decide) ?_
        show Steps p.tables e below (T106.setTop (mkF m 33 #[.val (.ref a1), .val (.int (0 : Int32))] [])) _
        refine XS.aloadN X106.here hx rfl (hb hby d7_33) rfl rfl ?_
        exact kt
      have f114 := ((F78.other W81 (Or.inr (slot_ne (Or.inl (hw _ (List.mem_of_getElem? (i := 24) rfl))) (Or.inl (hw _ (List.mem_of_getElem? (i := 14) rfl))) (by decide) (t := (.array .long)) (t' := .long) (by decide) (by decide)))).other W87 (Or.inr (slot_ne (Or.inl (hw _ (List.mem_of_getElem? (i := 24) rfl))) (Or.inl (hw _ (List.mem_of_getElem? (i := 16) rfl))) (by decide) (t := (.array .long)) (t' := .int) (by decide) (by decide))))
      obtain ⟨T115, X115, e115, st115⟩ := getF X106 hx hZ hown (host := "") (Or.inl (hw _ (List.mem_of_getElem? (i := 23) rfl))) Via.refl e106 f114 (g := (mkF m 34 #[.val (.ref a1), .val (.int (0 : Int32))] [(.ref a1)])) rfl rfl (hb hby d7_34)
      have S116 : ∀ t, Steps p.tables e below (T115.setTop (mkF m 38 #[.val (.ref a1), .val (.int (0 : Int32))] [(.int (0 : Int32)), (.ref t1)])) t → Steps p.tables e below (T115.setTop (mkF m 37 #[.val (.ref a1), .val (.int (0 : Int32))] [(.ref t1)])) t := by
        intro t kt
        show Steps p.tables e below (T115.setTop (mkF m 37 #[.val (.ref a1), .val (.int (0 : Int32))] [(.ref t1)])) _
        refine XS.iloadN X115.here hx rfl (hb hby d7_37) rfl ?_
        exact kt
      have f117 := ((F79.other W81 (Ne.symm ne_a1_t1)).other W87 (Ne.symm ne_a1_t1))
      have S118 : ∀ t, Steps p.tables e below (T115.setTop (mkF m 40 #[.val (.ref a1), .val (.int (0 : Int32))] [(.ref a1), (.long (vals 0))])) t → Steps p.tables e below (T115.setTop (mkF m 38 #[.val (.ref a1), .val (.int (0 : Int32))] [(.int (0 : Int32)), (.ref t1)])) t := by
        intro t kt
        show Steps p.tables e below (T115.setTop (mkF m 38 #[.val (.ref a1), .val (.int (0 : Int32))] [(.int (0 : Int32)), (.ref t1)])) _
        refine ArF.ldJ X115 hx hZ e115 f117 (i := 0) (by decide) (by decide) (v := (vals 0)) rfl (g := (mkF m 38 #[.val (.ref a1), .val (.int (0 : Int32))] [(.int (0 : Int32)), (.ref t1)])) rfl rfl (hb hby d7_38) _ ?_
        show Steps p.tables e below (T115.setTop (mkF m 39 #[.val (.ref a1), .val (.int (0 : Int32))] [(.long (vals 0))])) _
        refine XS.aloadN X115.here hx rfl (hb hby d7_39) rfl rfl ?_
        exact kt
      have f119 := (Fw81.other W87 (Or.inr (slot_ne (Or.inl (hw _ (List.mem_of_getElem? (i := 14) rfl))) (Or.inl (hw _ (List.mem_of_getElem? (i := 16) rfl))) (by decide) (t := .long) (t' := .int) (by decide) (by decide))))
      obtain ⟨T120, X120, e120, st120⟩ := getF X115 hx hZ hown (host := "") (Or.inl (hw _ (List.mem_of_getElem? (i := 13) rfl))) Via.refl e115 f119 (g := (mkF m 40 #[.val (.ref a1), .val (.int (0 : Int32))] [(.ref a1), (.long (vals 0))])) rfl rfl (hb hby d7_40)
      have S121 : ∀ t, Steps p.tables e below (T120.setTop (mkF m 44 #[.val (.ref a1), .val (.int (0 : Int32))] [(.int (lcmpW (vals 0) (9223372036854775807 : Int64)))])) t → Steps p.tables e below (T120.setTop (mkF m 43 #[.val (.ref a1), .val (.int (0 : Int32))] [(.long (9223372036854775807 : Int64)), (.long (vals 0))])) t := by
        intro t kt
        show Steps p.tables e below (T120.setTop (mkF m 43 #[.val (.ref a1), .val (.int (0 : Int32))] [(.long (9223372036854775807 : Int64)), (.long (vals 0))])) _
        refine XS.lcmp X120.here hx rfl (hb hby d7_43) rfl ?_
        exact kt
      by_cases hc122 : (vals 0) < (9223372036854775807 : Int64)
      · have S123 : ∀ t, Steps p.tables e below (T120.setTop (mkF m 49 #[.val (.ref a1), .val (.int (0 : Int32))] [(.ref a1), (.ref a1)])) t → Steps p.tables e below (T120.setTop (mkF m 44 #[.val (.ref a1), .val (.int (0 : Int32))] [(.int (lcmpW (vals 0) (9223372036854775807 : Int64)))])) t := by
          intro t kt
          show Steps p.tables e below (T120.setTop (mkF m 44 #[.val (.ref a1), .val (.int (0 : Int32))] [(.int (lcmpW (vals 0) (9223372036854775807 : Int64)))])) _
          refine XS.ifNo X120.here hx rfl (hb hby d7_44) rfl ((if0 _ _).trans (tlt ((lw_lt (vals 0) (9223372036854775807 : Int64)).mpr hc122)).2.1) ?_
          show Steps p.tables e below (T120.setTop (mkF m 47 #[.val (.ref a1), .val (.int (0 : Int32))] [])) _
          refine XS.aloadN X120.here hx rfl (hb hby d7_47) rfl rfl ?_
          show Steps p.tables e below (T120.setTop (mkF m 48 #[.val (.ref a1), .val (.int (0 : Int32))] [(.ref a1)])) _
          refine XS.aloadN X120.here hx rfl (hb hby d7_48) rfl rfl ?_
          exact kt
        obtain ⟨T124, X124, e124, st124⟩ := getF X120 hx hZ hown (host := "") (Or.inl (hw _ (List.mem_of_getElem? (i := 23) rfl))) Via.refl e120 f114 (g := (mkF m 49 #[.val (.ref a1), .val (.int (0 : Int32))] [(.ref a1), (.ref a1)])) rfl rfl (hb hby d7_49)
        have S125 : ∀ t, Steps p.tables e below (T124.setTop (mkF m 54 #[.val (.ref a1), .val (.int (0 : Int32))] [(.long (vals 0)), (.ref a1)])) t → Steps p.tables e below (T124.setTop (mkF m 52 #[.val (.ref a1), .val (.int (0 : Int32))] [(.ref t1), (.ref a1)])) t := by
          intro t kt
          show Steps p.tables e below (T124.setTop (mkF m 52 #[.val (.ref a1), .val (.int (0 : Int32))] [(.ref t1), (.ref a1)])) _
          refine XS.iloadN X124.here hx rfl (hb hby d7_52) rfl ?_
          show Steps p.tables e below (T124.setTop (mkF m 53 #[.val (.ref a1), .val (.int (0 : Int32))] [(.int (0 : Int32)), (.ref t1), (.ref a1)])) _
          refine ArF.ldJ X124 hx hZ e124 f117 (i := 0) (by decide) (by decide) (v := (vals 0)) rfl (g := (mkF m 53 #[.val (.ref a1), .val (.int (0 : Int32))] [(.int (0 : Int32)), (.ref t1), (.ref a1)])) rfl rfl (hb hby d7_53) _ ?_
          exact kt
        have f126 := (f86.wr W87)
        obtain ⟨T127, h127, X127, e127, W127, st127⟩ := putF X124 hx hZ hown (host := "") (Or.inl (hw _ (List.mem_of_getElem? (i := 13) rfl))) Via.refl e124 f119 f126 (Or.inl (hw _ (List.mem_of_getElem? (i := 14) rfl))) (hw _ (List.mem_of_getElem? (i := 1) rfl)) (ty := .long) (by decide) rfl rfl (g := (mkF m 54 #[.val (.ref a1), .val (.int (0 : Int32))] [(.long (vals 0)), (.ref a1)])) rfl rfl (hb hby d7_54)
        have z128 : n0 ≤ h127.size := Nat.le_trans z88 (Keep.of_wr W127).1
        have N129 := Fr.snoc X127 N89 g_a1
        have Fw127 := f119.same W127
        have S130 : ∀ t, Steps p.tables e below (T127.setTop (mkF m 59 #[.val (.ref a1), .val (.int (0 : Int32))] [(.int (1 : Int32)), (.ref a1)])) t → Steps p.tables e below (T127.setTop (mkF m 57 #[.val (.ref a1), .val (.int (0 : Int32))] [])) t := by
          intro t kt
          show Steps p.tables e below (T127.setTop (mkF m 57 #[.val (.ref a1), .val (.int (0 : Int32))] [])) _
          refine XS.aloadN X127.here hx rfl (hb hby d7_57) rfl rfl ?_
          show Steps p.tables e below (T127.setTop (mkF m 58 #[.val (.ref a1), .val (.int (0 : Int32))] [(.ref a1)])) _
          refine XS.iconst X127.here hx rfl (hb hby d7_58) ?_
          exact kt
        have f131 := (Fw87.other W127 (Or.inr (slot_ne (Or.inl (hw _ (List.mem_of_getElem? (i := 16) rfl))) (Or.inl (hw _ (List.mem_of_getElem? (i := 14) rfl))) (by decide) (t := .int) (t' := .long) (by decide) (by decide))))
        have f132 := (f126.wr W127)
        obtain ⟨T133, h133, X133, e133, W133, st133⟩ := putF X127 hx hZ hown (host := "") (Or.inl (hw _ (List.mem_of_getElem? (i := 15) rfl))) Via.refl e127 f131 f132 (Or.inl (hw _ (List.mem_of_getElem? (i := 16) rfl))) (hw _ (List.mem_of_getElem? (i := 1) rfl)) (ty := .int) (by decide) rfl rfl (g := (mkF m 59 #[.val (.ref a1), .val (.int (0 : Int32))] [(.int (1 : Int32)), (.ref a1)])) rfl rfl (hb hby d7_59)
        have z134 : n0 ≤ h133.size := Nat.le_trans z128 (Keep.of_wr W133).1
        have N135 := Fr.snoc X133 N129 g_a1
        have Fw133 := f131.same W133
        have f136 := (f132.wr W133)
        have f137 := ((f91.other W127 (Or.inr (slot_ne (Or.inr (hw _ (List.mem_of_getElem? (i := 10) rfl))) (Or.inl (hw _ (List.mem_of_getElem? (i := 14) rfl))) (by decide) (t := .int) (t' := .long) (by decide) (by decide)))).other W133 (Or.inr (slot_ne (Or.inr (hw _ (List.mem_of_getElem? (i := 10) rfl))) (Or.inl (hw _ (List.mem_of_getElem? (i := 16) rfl))) (by decide) (t := .int) (t' := .int) (by decide) (by decide))))
        have f138 := ((f105.other W127 (Or.inr (slot_ne (Or.inr (hw _ (List.mem_of_getElem? (i := 12) rfl))) (Or.inl (hw _ (List.mem_of_getElem? (i := 14) rfl))) (by decide) (t := .int) (t' := .long) (by decide) (by decide)))).other W133 (Or.inr (slot_ne (Or.inr (hw _ (List.mem_of_getElem? (i := 12) rfl))) (Or.inl (hw _ (List.mem_of_getElem? (i := 16) rfl))) (by decide) (t := .int) (t' := .int) (by decide) (by decide))))
        have f139 := (Fw127.other W133 (Or.inr (slot_ne (Or.inl (hw _ (List.mem_of_getElem? (i := 14) rfl))) (Or.inl (hw _ (List.mem_of_getElem? (i := 16) rfl))) (by decide) (t := .long) (t' := .int) (by decide) (by decide))))
        have f140 := ((f114.other W127 (Or.inr (slot_ne (Or.inl (hw _ (List.mem_of_getElem? (i := 24) rfl))) (Or.inl (hw _ (List.mem_of_getElem? (i := 14) rfl))) (by decide) (t := (.array .long)) (t' := .long) (by decide) (by decide)))).other W133 (Or.inr (slot_ne (Or.inl (hw _ (List.mem_of_getElem? (i := 24) rfl))) (Or.inl (hw _ (List.mem_of_getElem? (i := 16) rfl))) (by decide) (t := (.array .long)) (t' := .int) (by decide) (by decide))))
        have f141 := ((f117.other W127 (Ne.symm ne_a1_t1)).other W133 (Ne.symm ne_a1_t1))
        have S142 : ∀ t, Steps p.tables e below (T133.setTop (mkF m 89 #[.val (.ref a1), .val (.int (0 : Int32))] [])) t → Steps p.tables e below (T133.setTop (mkF m 62 #[.val (.ref a1), .val (.int (0 : Int32))] [])) t := by
          intro t kt
          show Steps p.tables e below (T133.setTop (mkF m 62 #[.val (.ref a1), .val (.int (0 : Int32))] [])) _
          refine XS.goto X133.here hx rfl (pc0 := 62) (pc' := 89) rfl (hb hby d7_62) (by decide) (by decide) ?_
          exact kt
        exact ⟨T133, h133, _, (vals 0), (1 : Int32), X133, e133, N135, z134, (((((Keep.refl h0 [a1]).wr W81 (Or.inl (List.mem_of_getElem? (i := 0) rfl))).wr W87 (Or.inl (List.mem_of_getElem? (i := 0) rfl))).wr W127 (Or.inl (List.mem_of_getElem? (i := 0) rfl))).wr W133 (Or.inl (List.mem_of_getElem? (i := 0) rfl))), f136, f137, f138, f139, Fw133, f140, f141, (fun t k => (S104 t (st106 t (S113 t (st115 t (S116 t (S118 t (st120 t (S121 t (S123 t (st124 t (S125 t (st127 t (S130 t (st133 t (S142 t k))))))))))))))))⟩
      · have S143 : ∀ t, Steps p.tables e below (T120.setTop (mkF m 66 #[.val (.ref a1), .val (.int (0 : Int32))] [(.ref a1)])) t → Steps p.tables e below (T120.setTop (mkF m 44 #[.val (.ref a1), .val (.int (0 : Int32))] [(.int (lcmpW (vals 0) (9223372036854775807 : Int64)))])) t := by
          intro t kt
          show Steps p.tables e below (T120.setTop (mkF m 44 #[.val (.ref a1), .val (.int (0 : Int32))] [(.int (lcmpW (vals 0) (9223372036854775807 : Int64)))])) _
          refine XS.ifYes X120.here hx rfl (pc0 := 44) (pc' := 65) rfl (hb hby d7_44) rfl ((if0 _ _).trans (flt (fun q => hc122 ((lw_lt (vals 0) (9223372036854775807 : Int64)).mp q))).2.1) (by decide) (by decide) ?_
          show Steps p.tables e below (T120.setTop (mkF m 65 #[.val (.ref a1), .val (.int (0 : Int32))] [])) _
          refine XS.aloadN X120.here hx rfl (hb hby d7_65) rfl rfl ?_
          exact kt
        obtain ⟨T144, X144, e144, st144⟩ := getF X120 hx hZ hown (host := "") (Or.inl (hw _ (List.mem_of_getElem? (i := 23) rfl))) Via.refl e120 f114 (g := (mkF m 66 #[.val (.ref a1), .val (.int (0 : Int32))] [(.ref a1)])) rfl rfl (hb hby d7_66)
        have S145 : ∀ t, Steps p.tables e below (T144.setTop (mkF m 72 #[.val (.ref a1), .val (.int (0 : Int32))] [(.ref a1), (.long (vals 0))])) t → Steps p.tables e below (T144.setTop (mkF m 69 #[.val (.ref a1), .val (.int (0 : Int32))] [(.ref t1)])) t := by
          intro t kt
          show Steps p.tables e below (T144.setTop (mkF m 69 #[.val (.ref a1), .val (.int (0 : Int32))] [(.ref t1)])) _
          refine XS.iloadN X144.here hx rfl (hb hby d7_69) rfl ?_
          show Steps p.tables e below (T144.setTop (mkF m 70 #[.val (.ref a1), .val (.int (0 : Int32))] [(.int (0 : Int32)), (.ref t1)])) _
          refine ArF.ldJ X144 hx hZ e144 f117 (i := 0) (by decide) (by decide) (v := (vals 0)) rfl (g := (mkF m 70 #[.val (.ref a1), .val (.int (0 : Int32))] [(.int (0 : Int32)), (.ref t1)])) rfl rfl (hb hby d7_70) _ ?_
          show Steps p.tables e below (T144.setTop (mkF m 71 #[.val (.ref a1), .val (.int (0 : Int32))] [(.long (vals 0))])) _
          refine XS.aloadN X144.here hx rfl (hb hby d7_71) rfl rfl ?_
          exact kt
        obtain ⟨T146, X146, e146, st146⟩ := getF X144 hx hZ hown (host := "") (Or.inl (hw _ (List.mem_of_getElem? (i := 13) rfl))) Via.refl e144 f119 (g := (mkF m 72 #[.val (.ref a1), .val (.int (0 : Int32))] [(.ref a1), (.long (vals 0))])) rfl rfl (hb hby d7_72)
        have S147 : ∀ t, Steps p.tables e below (T146.setTop (mkF m 76 #[.val (.ref a1), .val (.int (0 : Int32))] [(.int (lcmpW (vals 0) (9223372036854775807 : Int64)))])) t → Steps p.tables e below (T146.setTop (mkF m 75 #[.val (.ref a1), .val (.int (0 : Int32))] [(.long (9223372036854775807 : Int64)), (.long (vals 0))])) t := by
          intro t kt
          show Steps p.tables e below (T146.setTop (mkF m 75 #[.val (.ref a1), .val (.int (0 : Int32))] [(.long (9223372036854775807 : Int64)), (.long (vals 0))])) _
          refine XS.lcmp X146.here hx rfl (hb hby d7_75) rfl ?_
          exact kt
        by_cases hc148 : (vals 0) = (9223372036854775807 : Int64)
        · have S149 : ∀ t, Steps p.tables e below (T146.setTop (mkF m 81 #[.val (.ref a1), .val (.int (0 : Int32))] [(.ref a1), (.ref a1)])) t → Steps p.tables e below (T146.setTop (mkF m 76 #[.val (.ref a1), .val (.int (0 : Int32))] [(.int (lcmpW (vals 0) (9223372036854775807 : Int64)))])) t := by
            intro t kt
            show Steps p.tables e below (T146.setTop (mkF m 76 #[.val (.ref a1), .val (.int (0 : Int32))] [(.int (lcmpW (vals 0) (9223372036854775807 : Int64)))])) _
            refine XS.ifNo X146.here hx rfl (hb hby d7_76) rfl ((if0 _ _).trans (teq ((lw_eq (vals 0) (9223372036854775807 : Int64)).mpr hc148)).2) ?_
            show Steps p.tables e below (T146.setTop (mkF m 79 #[.val (.ref a1), .val (.int (0 : Int32))] [])) _
            refine XS.aloadN X146.here hx rfl (hb hby d7_79) rfl rfl ?_
            show Steps p.tables e below (T146.setTop (mkF m 80 #[.val (.ref a1), .val (.int (0 : Int32))] [(.ref a1)])) _
            refine XS.dup X146.here hx rfl (hb hby d7_80) rfl rfl ?_
            exact kt
          obtain ⟨T150, X150, e150, st150⟩ := getF X146 hx hZ hown (host := "") (Or.inl (hw _ (List.mem_of_getElem? (i := 15) rfl))) Via.refl e146 Fw87 (g := (mkF m 81 #[.val (.ref a1), .val (.int (0 : Int32))] [(.ref a1), (.ref a1)])) rfl rfl (hb hby d7_81)
          have S151 : ∀ t, Steps p.tables e below (T150.setTop (mkF m 86 #[.val (.ref a1), .val (.int (0 : Int32))] [(.int ((0 : Int32) + (1 : Int32))), (.ref a1)])) t → Steps p.tables e below (T150.setTop (mkF m 84 #[.val (.ref a1), .val (.int (0 : Int32))] [(.int (0 : Int32)), (.ref a1)])) t := by
            intro t kt
            show Steps p.tables e below (T150.setTop (mkF m 84 #[.val (.ref a1), .val (.int (0 : Int32))] [(.int (0 : Int32)), (.ref a1)])) _
            refine XS.iconst X150.here hx rfl (hb hby d7_84) ?_
            show Steps p.tables e below (T150.setTop (mkF m 85 #[.val (.ref a1), .val (.int (0 : Int32))] [(.int (1 : Int32)), (.int (0 : Int32)), (.ref a1)])) _
            refine XS.iadd X150.here hx rfl (hb hby d7_85) rfl ?_
            exact kt
          have f152 := (f86.wr W87)
          obtain ⟨T153, h153, X153, e153, W153, st153⟩ := putF X150 hx hZ hown (host := "") (Or.inl (hw _ (List.mem_of_getElem? (i := 15) rfl))) Via.refl e150 Fw87 f152 (Or.inl (hw _ (List.mem_of_getElem? (i := 16) rfl))) (hw _ (List.mem_of_getElem? (i := 1) rfl)) (ty := .int) (by decide) rfl rfl (g := (mkF m 86 #[.val (.ref a1), .val (.int (0 : Int32))] [(.int ((0 : Int32) + (1 : Int32))), (.ref a1)])) rfl rfl (hb hby d7_86)
          have z154 : n0 ≤ h153.size := Nat.le_trans z88 (Keep.of_wr W153).1
          have N155 := Fr.snoc X153 N89 g_a1
          have Fw153 := Fw87.same W153
          have f156 := (f152.wr W153)
          have f157 := (f91.other W153 (Or.inr (slot_ne (Or.inr (hw _ (List.mem_of_getElem? (i := 10) rfl))) (Or.inl (hw _ (List.mem_of_getElem? (i := 16) rfl))) (by decide) (t := .int) (t' := .int) (by decide) (by decide))))
          have f158 := (f105.other W153 (Or.inr (slot_ne (Or.inr (hw _ (List.mem_of_getElem? (i := 12) rfl))) (Or.inl (hw _ (List.mem_of_getElem? (i := 16) rfl))) (by decide) (t := .int) (t' := .int) (by decide) (by decide))))
          have f159 := (f119.other W153 (Or.inr (slot_ne (Or.inl (hw _ (List.mem_of_getElem? (i := 14) rfl))) (Or.inl (hw _ (List.mem_of_getElem? (i := 16) rfl))) (by decide) (t := .long) (t' := .int) (by decide) (by decide))))
          have f160 := (f114.other W153 (Or.inr (slot_ne (Or.inl (hw _ (List.mem_of_getElem? (i := 24) rfl))) (Or.inl (hw _ (List.mem_of_getElem? (i := 16) rfl))) (by decide) (t := (.array .long)) (t' := .int) (by decide) (by decide))))
          have f161 := (f117.other W153 (Ne.symm ne_a1_t1))
          exact ⟨T153, h153, _, (9223372036854775807 : Int64), ((0 : Int32) + (1 : Int32)), X153, e153, N155, z154, ((((Keep.refl h0 [a1]).wr W81 (Or.inl (List.mem_of_getElem? (i := 0) rfl))).wr W87 (Or.inl (List.mem_of_getElem? (i := 0) rfl))).wr W153 (Or.inl (List.mem_of_getElem? (i := 0) rfl))), f156, f157, f158, f159, Fw153, f160, f161, (fun t k => (S104 t (st106 t (S113 t (st115 t (S116 t (S118 t (st120 t (S121 t (S143 t (st144 t (S145 t (st146 t (S147 t (S149 t (st150 t (S151 t (st153 t k))))))))))))))))))⟩
        · have f162 := (f86.wr W87)
          have S163 : ∀ t, Steps p.tables e below (T146.setTop (mkF m 89 #[.val (.ref a1), .val (.int (0 : Int32))] [])) t → Steps p.tables e below (T146.setTop (mkF m 76 #[.val (.ref a1), .val (.int (0 : Int32))] [(.int (lcmpW (vals 0) (9223372036854775807 : Int64)))])) t := by
            intro t kt
            show Steps p.tables e below (T146.setTop (mkF m 76 #[.val (.ref a1), .val (.int (0 : Int32))] [(.int (lcmpW (vals 0) (9223372036854775807 : Int64)))])) _
            refine XS.ifYes X146.here hx rfl (pc0 := 76) (pc' := 89) rfl (hb hby d7_76) rfl ((if0 _ _).trans (feq (fun q => hc148 ((lw_eq (vals 0) (9223372036854775807 : Int64)).mp q))).2) (by decide) (by decide) ?_
            exact kt
          exact ⟨T146, h87, _, (9223372036854775807 : Int64), (0 : Int32), X146, e146, N89, z88, (((Keep.refl h0 [a1]).wr W81 (Or.inl (List.mem_of_getElem? (i := 0) rfl))).wr W87 (Or.inl (List.mem_of_getElem? (i := 0) rfl))), f162, f91, f105, f119, Fw87, f114, f117, (fun t k => (S104 t (st106 t (S113 t (st115 t (S116 t (S118 t (st120 t (S121 t (S143 t (st144 t (S145 t (st146 t (S147 t (S163 t k)))))))))))))))⟩
  have S164 : ∀ t, Steps p.tables e below (T96.setTop (mkF m 16 #[.val (.ref a1), .val (.int (1 : Int32))] [(.ref a1), (.int (1 : Int32))])) t → Steps p.tables e below (T96.setTop (mkF m 89 #[.val (.ref a1), .val (.int (0 : Int32))] [])) t := by
    intro t kt
    show Steps p.tables e below (T96.setTop (mkF m 89 #[.val (.ref a1), .val (.int (0 : Int32))] [])) _
    refine XS.iinc X96.here hx rfl (hb hby d7_89) rfl (l' := #[.val (.ref a1), .val (.int (1 : Int32))]) rfl ?_
    show Steps p.tables e below (T96.setTop (mkF m 92 #[.val (.ref a1), .val (.int (1 : Int32))] [])) _
    refine XS.goto X96.here hx rfl (pc0 := 92) (pc' := 14) rfl (hb hby d7_92) (by decide) (by decide) ?_
    show Steps p.tables e below (T96.setTop (mkF m 14 #[.val (.ref a1), .val (.int (1 : Int32))] [])) _
    refine XS.iloadN X96.here hx rfl (hb hby d7_14) rfl ?_
    show Steps p.tables e below (T96.setTop (mkF m 15 #[.val (.ref a1), .val (.int (1 : Int32))] [(.int (1 : Int32))])) _
    refine XS.aloadN X96.here hx rfl (hb hby d7_15) rfl rfl ?_
    exact kt
  obtain ⟨T165, X165, e165, st165⟩ := getF X96 hx hZ hown (host := "") (Or.inl (hw _ (List.mem_of_getElem? (i := 9) rfl))) Via.refl e96 F98 (g := (mkF m 16 #[.val (.ref a1), .val (.int (1 : Int32))] [(.ref a1), (.int (1 : Int32))])) rfl rfl (hb hby d7_16)
  have S168 : ∀ t, Steps p.tables e below (T165.setTop (mkF m 22 #[.val (.ref a1), .val (.int (1 : Int32))] [])) t → Steps p.tables e below (T165.setTop (mkF m 19 #[.val (.ref a1), .val (.int (1 : Int32))] [(.int (3 : Int32)), (.int (1 : Int32))])) t := by
    intro t kt
    show Steps p.tables e below (T165.setTop (mkF m 19 #[.val (.ref a1), .val (.int (1 : Int32))] [(.int (3 : Int32)), (.int (1 : Int32))])) _
    refine XS.icmpNo X165.here hx rfl (hb hby d7_19) rfl (tlt (by decide)).2.1 ?_
    exact kt
  obtain ⟨T169, h169, L169, lo166, al167, X169, e169, N169, Z169, K169, F170, F171, F172, F173, F174, F175, F176, J169⟩ : ∃ (T169 : State) (h169 : Heap) (L169 : List Loc) (lo166 : Int64) (al167 : Int32), Stand p l e ({ frames := 0, cells := 0, slots := 0, locals := 0 } : Room) s m #[(.ref a1)] below meth c T169 L169 0 0 ∧ T169.heap = h169 ∧ Fr n0 L169 ∧ n0 ≤ h169.size ∧ Keep h0 h169 [a1] ∧ Exa Z h169 a1 "com/example/totality/totality/core/Windows" ∧ Fld Z h169 a1 "com/example/totality/totality/core/Windows" "nodes" "I" (.int (3 : Int32)) ∧ Fld Z h169 a1 "com/example/totality/totality/core/Windows" "self" "I" (.int s1) ∧ Fld Z h169 a1 "com/example/totality/totality/core/Windows" "lowest" "J" (.long lo166) ∧ Fld Z h169 a1 "com/example/totality/totality/core/Windows" "atLowest" "I" (.int al167) ∧ Fld Z h169 a1 "com/example/totality/totality/core/Windows" "starts" "[J" (.ref t1) ∧ ArF Z h169 t1 .long 3 (fun q => (.long (vals q))) ∧ ∀ t, Steps p.tables e below (T169.setTop (mkF m 89 #[.val (.ref a1), .val (.int (1 : Int32))] [])) t → Steps p.tables e below (T165.setTop (mkF m 22 #[.val (.ref a1), .val (.int (1 : Int32))] [])) t := by
    have S177 : ∀ t, Steps p.tables e below (T165.setTop (mkF m 24 #[.val (.ref a1), .val (.int (1 : Int32))] [(.ref a1), (.int (1 : Int32))])) t → Steps p.tables e below (T165.setTop (mkF m 22 #[.val (.ref a1), .val (.int (1 : Int32))] [])) t := by
      intro t kt
      show Steps p.tables e below (T165.setTop (mkF m 22 #[.val (.ref a1), .val (.int (1 : Int32))] [])) _
      refine XS.iloadN X165.here hx rfl (hb hby d7_22) rfl ?_
      show Steps p.tables e below (T165.setTop (mkF m 23 #[.val (.ref a1), .val (.int (1 : Int32))] [(.int (1 : Int32))])) _
      refine XS.aloadN X165.here hx rfl (hb hby d7_23) rfl rfl ?_
      exact kt
    obtain ⟨T178, X178, e178, st178⟩ := getF X165 hx hZ hown (host := "") (Or.inl (hw _ (List.mem_of_getElem? (i := 11) rfl))) Via.refl e165 F99 (g := (mkF m 24 #[.val (.ref a1), .val (.int (1 : Int32))] [(.ref a1), (.int (1 : Int32))])) rfl rfl (hb hby d7_24)
    by_cases hc179 : (1 : Int32) = s1
    · have S180 : ∀ t, Steps p.tables e below (T178.setTop (mkF m 89 #[.val (.ref a1), .val (.int (1 : Int32))] [])) t → Steps p.tables e below (T178.setTop (mkF m 27 #[.val (.ref a1), .val (.int (1 : Int32))] [(.int s1), (.int (1 : Int32))])) t := by
        intro t kt
        show Steps p.tables e below (T178.setTop (mkF m 27 #[.val (.ref a1), .val (.int (1 : Int32))] [(.int s1), (.int (1 : Int32))])) _
        refine XS.icmpNo X178.here hx rfl (hb hby d7_27) rfl (teq hc179).2 ?_
        show Steps p.tables e below (T178.setTop (mkF m 30 #[.val (.ref a1), .val (.int (1 : Int32))] [])) _
        refine XS.goto X178.here hx rfl (pc0 := 30) (pc' := 89) rfl (hb hby d7_30) (by decide) (by decide) ?_
        exact kt
      exact ⟨T178, h96, _, lo93, al94, X178, e178, N96, Z96, K96, F97, F98, F99, F100, F101, F102, F103, (fun t k => (S177 t (st178 t (S180 t k))))⟩
    · have S181 : ∀ t, Steps p.tables e below (T178.setTop (mkF m 34 #[.val (.ref a1), .val (.int (1 : Int32))] [(.ref a1)])) t → Steps p.tables e below (T178.setTop (mkF m 27 #[.val (.ref a1), .val (.int (1 : Int32))] [(.int s1), (.int (1 : Int32))])) t := by
        intro t kt
        show Steps p.tables e below (T178.setTop (mkF m 27 #[.val (.ref a1), .val (.int (1 : Int32))] [(.int s1), (.int (1 : Int32))])) _
        refine XS.icmpYes X178.here hx rfl (pc0 := 27) (pc' := 33) rfl (hb hby d7_27) rfl (feq hc179).2 (by decide) (by decide) ?_
        show Steps p.tables e below (T178.setTop (mkF m 33 #[.val (.ref a1), .val (.int (1 : Int32))] [])) _
        refine XS.aloadN X178.here hx rfl (hb hby d7_33) rfl rfl ?_
        exact kt
      obtain ⟨T182, X182, e182, st182⟩ := getF X178 hx hZ hown (host := "") (Or.inl (hw _ (List.mem_of_getElem? (i := 23) rfl))) Via.refl e178 F102 (g := (mkF m 34 #[.val (.ref a1), .val (.int (1 : Int32))] [(.ref a1)])) rfl rfl (hb hby d7_34)
      have S183 : ∀ t, Steps p.tables e below (T182.setTop (mkF m 40 #[.val (.ref a1), .val (.int (1 : Int32))] [(.ref a1), (.long (vals 1))])) t → Steps p.tables e below (T182.setTop (mkF m 37 #[.val (.ref a1), .val (.int (1 : Int32))] [(.ref t1)])) t := by
        intro t kt
        show Steps p.tables e below (T182.setTop (mkF m 37 #[.val (.ref a1), .val (.int (1 : Int32))] [(.ref t1)])) _
        refine XS.iloadN X182.here hx rfl (hb hby d7_37) rfl ?_
        show Steps p.tables e below (T182.setTop (mkF m 38 #[.val (.ref a1), .val (.int (1 : Int32))] [(.int (1 : Int32)), (.ref t1)])) _
        refine ArF.ldJ X182 hx hZ e182 F103 (i := 1) (by decide) (by decide) (v := (vals 1)) rfl (g := (mkF m 38 #[.val (.ref a1), .val (.int (1 : Int32))] [(.int (1 : Int32)), (.ref t1)])) rfl rfl (hb hby d7_38) _ ?_
        show Steps p.tables e below (T182.setTop (mkF m 39 #[.val (.ref a1), .val (.int (1 : Int32))] [(.long (vals 1))])) _
        refine XS.aloadN X182.here hx rfl (hb hby d7_39) rfl rfl ?_
        exact kt
      obtain ⟨T184, X184, e184, st184⟩ := getF X182 hx hZ hown (host := "") (Or.inl (hw _ (List.mem_of_getElem? (i := 13) rfl))) Via.refl e182 F100 (g := (mkF m 40 #[.val (.ref a1), .val (.int (1 : Int32))] [(.ref a1), (.long (vals 1))])) rfl rfl (hb hby d7_40)
      have S185 : ∀ t, Steps p.tables e below (T184.setTop (mkF m 44 #[.val (.ref a1), .val (.int (1 : Int32))] [(.int (lcmpW (vals 1) lo93))])) t → Steps p.tables e below (T184.setTop (mkF m 43 #[.val (.ref a1), .val (.int (1 : Int32))] [(.long lo93), (.long (vals 1))])) t := by
        intro t kt
        show Steps p.tables e below (T184.setTop (mkF m 43 #[.val (.ref a1), .val (.int (1 : Int32))] [(.long lo93), (.long (vals 1))])) _
        refine XS.lcmp X184.here hx rfl (hb hby d7_43) rfl ?_
        exact kt
      by_cases hc186 : (vals 1) < lo93
      · have S187 : ∀ t, Steps p.tables e below (T184.setTop (mkF m 49 #[.val (.ref a1), .val (.int (1 : Int32))] [(.ref a1), (.ref a1)])) t → Steps p.tables e below (T184.setTop (mkF m 44 #[.val (.ref a1), .val (.int (1 : Int32))] [(.int (lcmpW (vals 1) lo93))])) t := by
          intro t kt
          show Steps p.tables e below (T184.setTop (mkF m 44 #[.val (.ref a1), .val (.int (1 : Int32))] [(.int (lcmpW (vals 1) lo93))])) _
          refine XS.ifNo X184.here hx rfl (hb hby d7_44) rfl ((if0 _ _).trans (tlt ((lw_lt (vals 1) lo93).mpr hc186)).2.1) ?_
          show Steps p.tables e below (T184.setTop (mkF m 47 #[.val (.ref a1), .val (.int (1 : Int32))] [])) _
          refine XS.aloadN X184.here hx rfl (hb hby d7_47) rfl rfl ?_
          show Steps p.tables e below (T184.setTop (mkF m 48 #[.val (.ref a1), .val (.int (1 : Int32))] [(.ref a1)])) _
          refine XS.aloadN X184.here hx rfl (hb hby d7_48) rfl rfl ?_
          exact kt
        obtain ⟨T188, X188, e188, st188⟩ := getF X184 hx hZ hown (host := "") (Or.inl (hw _ (List.mem_of_getElem? (i := 23) rfl))) Via.refl e184 F102 (g := (mkF m 49 #[.val (.ref a1), .val (.int (1 : Int32))] [(.ref a1), (.ref a1)])) rfl rfl (hb hby d7_49)
        have S189 : ∀ t, Steps p.tables e below (T188.setTop (mkF m 54 #[.val (.ref a1), .val (.int (1 : Int32))] [(.long (vals 1)), (.ref a1)])) t → Steps p.tables e below (T188.setTop (mkF m 52 #[.val (.ref a1), .val (.int (1 : Int32))] [(.ref t1), (.ref a1)])) t := by
          intro t kt
          show Steps p.tables e below (T188.setTop (mkF m 52 #[.val (.ref a1), .val (.int (1 : Int32))] [(.ref t1), (.ref a1)])) _
          refine XS.iloadN X188.here hx rfl (hb hby d7_52) rfl ?_
          show Steps p.tables e below (T188.setTop (mkF m 53 #[.val (.ref a1), .val (.int (1 : Int32))] [(.int (1 : Int32)), (.ref t1), (.ref a1)])) _
          refine ArF.ldJ X188 hx hZ e188 F103 (i := 1) (by decide) (by decide) (v := (vals 1)) rfl (g := (mkF m 53 #[.val (.ref a1), .val (.int (1 : Int32))] [(.int (1 : Int32)), (.ref t1), (.ref a1)])) rfl rfl (hb hby d7_53) _ ?_
          exact kt
        obtain ⟨T190, h190, X190, e190, W190, st190⟩ := putF X188 hx hZ hown (host := "") (Or.inl (hw _ (List.mem_of_getElem? (i := 13) rfl))) Via.refl e188 F100 F97 (Or.inl (hw _ (List.mem_of_getElem? (i := 14) rfl))) (hw _ (List.mem_of_getElem? (i := 1) rfl)) (ty := .long) (by decide) rfl rfl (g := (mkF m 54 #[.val (.ref a1), .val (.int (1 : Int32))] [(.long (vals 1)), (.ref a1)])) rfl rfl (hb hby d7_54)
        have z191 : n0 ≤ h190.size := Nat.le_trans Z96 (Keep.of_wr W190).1
        have N192 := Fr.snoc X190 N96 g_a1
        have Fw190 := F100.same W190
        have S193 : ∀ t, Steps p.tables e below (T190.setTop (mkF m 59 #[.val (.ref a1), .val (.int (1 : Int32))] [(.int (1 : Int32)), (.ref a1)])) t → Steps p.tables e below (T190.setTop (mkF m 57 #[.val (.ref a1), .val (.int (1 : Int32))] [])) t := by
          intro t kt
          show Steps p.tables e below (T190.setTop (mkF m 57 #[.val (.ref a1), .val (.int (1 : Int32))] [])) _
          refine XS.aloadN X190.here hx rfl (hb hby d7_57) rfl rfl ?_
          show Steps p.tables e below (T190.setTop (mkF m 58 #[.val (.ref a1), .val (.int (1 : Int32))] [(.ref a1)])) _
          refine XS.iconst X190.here hx rfl (hb hby d7_58) ?_
          exact kt
        have f194 := (F101.other W190 (Or.inr (slot_ne (Or.inl (hw _ (List.mem_of_getElem? (i := 16) rfl))) (Or.inl (hw _ (List.mem_of_getElem? (i := 14) rfl))) (by decide) (t := .int) (t' := .long) (by decide) (by decide))))
        have f195 := (F97.wr W190)
        obtain ⟨T196, h196, X196, e196, W196, st196⟩ := putF X190 hx hZ hown (host := "") (Or.inl (hw _ (List.mem_of_getElem? (i := 15) rfl))) Via.refl e190 f194 f195 (Or.inl (hw _ (List.mem_of_getElem? (i := 16) rfl))) (hw _ (List.mem_of_getElem? (i := 1) rfl)) (ty := .int) (by decide) rfl rfl (g := (mkF m 59 #[.val (.ref a1), .val (.int (1 : Int32))] [(.int (1 : Int32)), (.ref a1)])) rfl rfl (hb hby d7_59)
        have z197 : n0 ≤ h196.size := Nat.le_trans z191 (Keep.of_wr W196).1
        have N198 := Fr.snoc X196 N192 g_a1
        have Fw196 := f194.same W196
        have f199 := (f195.wr W196)
        have f200 := ((F98.other W190 (Or.inr (slot_ne (Or.inr (hw _ (List.mem_of_getElem? (i := 10) rfl))) (Or.inl (hw _ (List.mem_of_getElem? (i := 14) rfl))) (by decide) (t := .int) (t' := .long) (by decide) (by decide)))).other W196 (Or.inr (slot_ne (Or.inr (hw _ (List.mem_of_getElem? (i := 10) rfl))) (Or.inl (hw _ (List.mem_of_getElem? (i := 16) rfl))) (by decide) (t := .int) (t' := .int) (by decide) (by decide))))
        have f201 := ((F99.other W190 (Or.inr (slot_ne (Or.inr (hw _ (List.mem_of_getElem? (i := 12) rfl))) (Or.inl (hw _ (List.mem_of_getElem? (i := 14) rfl))) (by decide) (t := .int) (t' := .long) (by decide) (by decide)))).other W196 (Or.inr (slot_ne (Or.inr (hw _ (List.mem_of_getElem? (i := 12) rfl))) (Or.inl (hw _ (List.mem_of_getElem? (i := 16) rfl))) (by decide) (t := .int) (t' := .int) (by decide) (by decide))))
        have f202 := (Fw190.other W196 (Or.inr (slot_ne (Or.inl (hw _ (List.mem_of_getElem? (i := 14) rfl))) (Or.inl (hw _ (List.mem_of_getElem? (i := 16) rfl))) (by decide) (t := .long) (t' := .int) (by decide) (by decide))))
        have f203 := ((F102.other W190 (Or.inr (slot_ne (Or.inl (hw _ (List.mem_of_getElem? (i := 24) rfl))) (Or.inl (hw _ (List.mem_of_getElem? (i := 14) rfl))) (by decide) (t := (.array .long)) (t' := .long) (by decide) (by decide)))).other W196 (Or.inr (slot_ne (Or.inl (hw _ (List.mem_of_getElem? (i := 24) rfl))) (Or.inl (hw _ (List.mem_of_getElem? (i := 16) rfl))) (by decide) (t := (.array .long)) (t' := .int) (by decide) (by decide))))
        have f204 := ((F103.other W190 (Ne.symm ne_a1_t1)).other W196 (Ne.symm ne_a1_t1))
        have S205 : ∀ t, Steps p.tables e below (T196.setTop (mkF m 89 #[.val (.ref a1), .val (.int (1 : Int32))] [])) t → Steps p.tables e below (T196.setTop (mkF m 62 #[.val (.ref a1), .val (.int (1 : Int32))] [])) t := by
          intro t kt
          show Steps p.tables e below (T196.setTop (mkF m 62 #[.val (.ref a1), .val (.int (1 : Int32))] [])) _
          refine XS.goto X196.here hx rfl (pc0 := 62) (pc' := 89) rfl (hb hby d7_62) (by decide) (by decide) ?_
          exact kt
        exact ⟨T196, h196, _, (vals 1), (1 : Int32), X196, e196, N198, z197, ((K96.wr W190 (Or.inl (List.mem_of_getElem? (i := 0) rfl))).wr W196 (Or.inl (List.mem_of_getElem? (i := 0) rfl))), f199, f200, f201, f202, Fw196, f203, f204, (fun t k => (S177 t (st178 t (S181 t (st182 t (S183 t (st184 t (S185 t (S187 t (st188 t (S189 t (st190 t (S193 t (st196 t (S205 t k)))))))))))))))⟩
      · have S206 : ∀ t, Steps p.tables e below (T184.setTop (mkF m 66 #[.val (.ref a1), .val (.int (1 : Int32))] [(.ref a1)])) t → Steps p.tables e below (T184.setTop (mkF m 44 #[.val (.ref a1), .val (.int (1 : Int32))] [(.int (lcmpW (vals 1) lo93))])) t := by
          intro t kt
          show Steps p.tables e below (T184.setTop (mkF m 44 #[.val (.ref a1), .val (.int (1 : Int32))] [(.int (lcmpW (vals 1) lo93))])) _
          refine XS.ifYes X184.here hx rfl (pc0 := 44) (pc' := 65) rfl (hb hby d7_44) rfl ((if0 _ _).trans (flt (fun q => hc186 ((lw_lt (vals 1) lo93).mp q))).2.1) (by decide) (by decide) ?_
          show Steps p.tables e below (T184.setTop (mkF m 65 #[.val (.ref a1), .val (.int (1 : Int32))] [])) _
          refine XS.aloadN X184.here hx rfl (hb hby d7_65) rfl rfl ?_
          exact kt
        obtain ⟨T207, X207, e207, st207⟩ := getF X184 hx hZ hown (host := "") (Or.inl (hw _ (List.mem_of_getElem? (i := 23) rfl))) Via.refl e184 F102 (g := (mkF m 66 #[.val (.ref a1), .val (.int (1 : Int32))] [(.ref a1)])) rfl rfl (hb hby d7_66)
        have S208 : ∀ t, Steps p.tables e below (T207.setTop (mkF m 72 #[.val (.ref a1), .val (.int (1 : Int32))] [(.ref a1), (.long (vals 1))])) t → Steps p.tables e below (T207.setTop (mkF m 69 #[.val (.ref a1), .val (.int (1 : Int32))] [(.ref t1)])) t := by
          intro t kt
          show Steps p.tables e below (T207.setTop (mkF m 69 #[.val (.ref a1), .val (.int (1 : Int32))] [(.ref t1)])) _
          refine XS.iloadN X207.here hx rfl (hb hby d7_69) rfl ?_
          show Steps p.tables e below (T207.setTop (mkF m 70 #[.val (.ref a1), .val (.int (1 : Int32))] [(.int (1 : Int32)), (.ref t1)])) _
          refine ArF.ldJ X207 hx hZ e207 F103 (i := 1) (by decide) (by decide) (v := (vals 1)) rfl (g := (mkF m 70 #[.val (.ref a1), .val (.int (1 : Int32))] [(.int (1 : Int32)), (.ref t1)])) rfl rfl (hb hby d7_70) _ ?_
          show Steps p.tables e below (T207.setTop (mkF m 71 #[.val (.ref a1), .val (.int (1 : Int32))] [(.long (vals 1))])) _
          refine XS.aloadN X207.here hx rfl (hb hby d7_71) rfl rfl ?_
          exact kt
        obtain ⟨T209, X209, e209, st209⟩ := getF X207 hx hZ hown (host := "") (Or.inl (hw _ (List.mem_of_getElem? (i := 13) rfl))) Via.refl e207 F100 (g := (mkF m 72 #[.val (.ref a1), .val (.int (1 : Int32))] [(.ref a1), (.long (vals 1))])) rfl rfl (hb hby d7_72)
        have S210 : ∀ t, Steps p.tables e below (T209.setTop (mkF m 76 #[.val (.ref a1), .val (.int (1 : Int32))] [(.int (lcmpW (vals 1) lo93))])) t → Steps p.tables e below (T209.setTop (mkF m 75 #[.val (.ref a1), .val (.int (1 : Int32))] [(.long lo93), (.long (vals 1))])) t := by
          intro t kt
          show Steps p.tables e below (T209.setTop (mkF m 75 #[.val (.ref a1), .val (.int (1 : Int32))] [(.long lo93), (.long (vals 1))])) _
          refine XS.lcmp X209.here hx rfl (hb hby d7_75) rfl ?_
          exact kt
        by_cases hc211 : (vals 1) = lo93
        · have S212 : ∀ t, Steps p.tables e below (T209.setTop (mkF m 81 #[.val (.ref a1), .val (.int (1 : Int32))] [(.ref a1), (.ref a1)])) t → Steps p.tables e below (T209.setTop (mkF m 76 #[.val (.ref a1), .val (.int (1 : Int32))] [(.int (lcmpW (vals 1) lo93))])) t := by
            intro t kt
            show Steps p.tables e below (T209.setTop (mkF m 76 #[.val (.ref a1), .val (.int (1 : Int32))] [(.int (lcmpW (vals 1) lo93))])) _
            refine XS.ifNo X209.here hx rfl (hb hby d7_76) rfl ((if0 _ _).trans (teq ((lw_eq (vals 1) lo93).mpr hc211)).2) ?_
            show Steps p.tables e below (T209.setTop (mkF m 79 #[.val (.ref a1), .val (.int (1 : Int32))] [])) _
            refine XS.aloadN X209.here hx rfl (hb hby d7_79) rfl rfl ?_
            show Steps p.tables e below (T209.setTop (mkF m 80 #[.val (.ref a1), .val (.int (1 : Int32))] [(.ref a1)])) _
            refine XS.dup X209.here hx rfl (hb hby d7_80) rfl rfl ?_
            exact kt
          obtain ⟨T213, X213, e213, st213⟩ := getF X209 hx hZ hown (host := "") (Or.inl (hw _ (List.mem_of_getElem? (i := 15) rfl))) Via.refl e209 F101 (g := (mkF m 81 #[.val (.ref a1), .val (.int (1 : Int32))] [(.ref a1), (.ref a1)])) rfl rfl (hb hby d7_81)
          have S214 : ∀ t, Steps p.tables e below (T213.setTop (mkF m 86 #[.val (.ref a1), .val (.int (1 : Int32))] [(.int (al94 + (1 : Int32))), (.ref a1)])) t → Steps p.tables e below (T213.setTop (mkF m 84 #[.val (.ref a1), .val (.int (1 : Int32))] [(.int al94), (.ref a1)])) t := by
            intro t kt
            show Steps p.tables e below (T213.setTop (mkF m 84 #[.val (.ref a1), .val (.int (1 : Int32))] [(.int al94), (.ref a1)])) _
            refine XS.iconst X213.here hx rfl (hb hby d7_84) ?_
            show Steps p.tables e below (T213.setTop (mkF m 85 #[.val (.ref a1), .val (.int (1 : Int32))] [(.int (1 : Int32)), (.int al94), (.ref a1)])) _
            refine XS.iadd X213.here hx rfl (hb hby d7_85) rfl ?_
            exact kt
          obtain ⟨T215, h215, X215, e215, W215, st215⟩ := putF X213 hx hZ hown (host := "") (Or.inl (hw _ (List.mem_of_getElem? (i := 15) rfl))) Via.refl e213 F101 F97 (Or.inl (hw _ (List.mem_of_getElem? (i := 16) rfl))) (hw _ (List.mem_of_getElem? (i := 1) rfl)) (ty := .int) (by decide) rfl rfl (g := (mkF m 86 #[.val (.ref a1), .val (.int (1 : Int32))] [(.int (al94 + (1 : Int32))), (.ref a1)])) rfl rfl (hb hby d7_86)
          have z216 : n0 ≤ h215.size := Nat.le_trans Z96 (Keep.of_wr W215).1
          have N217 := Fr.snoc X215 N96 g_a1
          have Fw215 := F101.same W215
          have f218 := (F97.wr W215)
          have f219 := (F98.other W215 (Or.inr (slot_ne (Or.inr (hw _ (List.mem_of_getElem? (i := 10) rfl))) (Or.inl (hw _ (List.mem_of_getElem? (i := 16) rfl))) (by decide) (t := .int) (t' := .int) (by decide) (by decide))))
          have f220 := (F99.other W215 (Or.inr (slot_ne (Or.inr (hw _ (List.mem_of_getElem? (i := 12) rfl))) (Or.inl (hw _ (List.mem_of_getElem? (i := 16) rfl))) (by decide) (t := .int) (t' := .int) (by decide) (by decide))))
          have f221 := (F100.other W215 (Or.inr (slot_ne (Or.inl (hw _ (List.mem_of_getElem? (i := 14) rfl))) (Or.inl (hw _ (List.mem_of_getElem? (i := 16) rfl))) (by decide) (t := .long) (t' := .int) (by decide) (by decide))))
          have f222 := (F102.other W215 (Or.inr (slot_ne (Or.inl (hw _ (List.mem_of_getElem? (i := 24) rfl))) (Or.inl (hw _ (List.mem_of_getElem? (i := 16) rfl))) (by decide) (t := (.array .long)) (t' := .int) (by decide) (by decide))))
          have f223 := (F103.other W215 (Ne.symm ne_a1_t1))
          exact ⟨T215, h215, _, lo93, (al94 + (1 : Int32)), X215, e215, N217, z216, (K96.wr W215 (Or.inl (List.mem_of_getElem? (i := 0) rfl))), f218, f219, f220, f221, Fw215, f222, f223, (fun t k => (S177 t (st178 t (S181 t (st182 t (S183 t (st184 t (S185 t (S206 t (st207 t (S208 t (st209 t (S210 t (S212 t (st213 t (S214 t (st215 t k)))))))))))))))))⟩
        · have S224 : ∀ t, Steps p.tables e below (T209.setTop (mkF m 89 #[.val (.ref a1), .val (.int (1 : Int32))] [])) t → Steps p.tables e below (T209.setTop (mkF m 76 #[.val (.ref a1), .val (.int (1 : Int32))] [(.int (lcmpW (vals 1) lo93))])) t := by
            intro t kt
            show Steps p.tables e below (T209.setTop (mkF m 76 #[.val (.ref a1), .val (.int (1 : Int32))] [(.int (lcmpW (vals 1) lo93))])) _
            refine XS.ifYes X209.here hx rfl (pc0 := 76) (pc' := 89) rfl (hb hby d7_76) rfl ((if0 _ _).trans (feq (fun q => hc211 ((lw_eq (vals 1) lo93).mp q))).2) (by decide) (by decide) ?_
            exact kt
          exact ⟨T209, h96, _, lo93, al94, X209, e209, N96, Z96, K96, F97, F98, F99, F100, F101, F102, F103, (fun t k => (S177 t (st178 t (S181 t (st182 t (S183 t (st184 t (S185 t (S206 t (st207 t (S208 t (st209 t (S210 t (S224 t k))))))))))))))⟩
  have S225 : ∀ t, Steps p.tables e below (T169.setTop (mkF m 16 #[.val (.ref a1), .val (.int (2 : Int32))] [(.ref a1), (.int (2 : Int32))])) t → Steps p.tables e below (T169.setTop (mkF m 89 #[.val (.ref a1), .val (.int (1 : Int32))] [])) t := by
    intro t kt
    show Steps p.tables e below (T169.setTop (mkF m 89 #[.val (.ref a1), .val (.int (1 : Int32))] [])) _
    refine XS.iinc X169.here hx rfl (hb hby d7_89) rfl (l' := #[.val (.ref a1), .val (.int (2 : Int32))]) rfl ?_
    show Steps p.tables e below (T169.setTop (mkF m 92 #[.val (.ref a1), .val (.int (2 : Int32))] [])) _
    refine XS.goto X169.here hx rfl (pc0 := 92) (pc' := 14) rfl (hb hby d7_92) (by decide) (by decide) ?_
    show Steps p.tables e below (T169.setTop (mkF m 14 #[.val (.ref a1), .val (.int (2 : Int32))] [])) _
    refine XS.iloadN X169.here hx rfl (hb hby d7_14) rfl ?_
    show Steps p.tables e below (T169.setTop (mkF m 15 #[.val (.ref a1), .val (.int (2 : Int32))] [(.int (2 : Int32))])) _
    refine XS.aloadN X169.here hx rfl (hb hby d7_15) rfl rfl ?_
    exact kt
  obtain ⟨T226, X226, e226, st226⟩ := getF X169 hx hZ hown (host := "") (Or.inl (hw _ (List.mem_of_getElem? (i := 9) rfl))) Via.refl e169 F171 (g := (mkF m 16 #[.val (.ref a1), .val (.int (2 : Int32))] [(.ref a1), (.int (2 : Int32))])) rfl rfl (hb hby d7_16)
  have S229 : ∀ t, Steps p.tables e below (T226.setTop (mkF m 22 #[.val (.ref a1), .val (.int (2 : Int32))] [])) t → Steps p.tables e below (T226.setTop (mkF m 19 #[.val (.ref a1), .val (.int (2 : Int32))] [(.int (3 : Int32)), (.int (2 : Int32))])) t := by
    intro t kt
    show Steps p.tables e below (T226.setTop (mkF m 19 #[.val (.ref a1), .val (.int (2 : Int32))] [(.int (3 : Int32)), (.int (2 : Int32))])) _
    refine XS.icmpNo X226.here hx rfl (hb hby d7_19) rfl (tlt (by decide)).2.1 ?_
    exact kt
  obtain ⟨T230, h230, L230, lo227, al228, X230, e230, N230, Z230, K230, F231, F232, F233, F234, F235, F236, F237, J230⟩ : ∃ (T230 : State) (h230 : Heap) (L230 : List Loc) (lo227 : Int64) (al228 : Int32), Stand p l e ({ frames := 0, cells := 0, slots := 0, locals := 0 } : Room) s m #[(.ref a1)] below meth c T230 L230 0 0 ∧ T230.heap = h230 ∧ Fr n0 L230 ∧ n0 ≤ h230.size ∧ Keep h0 h230 [a1] ∧ Exa Z h230 a1 "com/example/totality/totality/core/Windows" ∧ Fld Z h230 a1 "com/example/totality/totality/core/Windows" "nodes" "I" (.int (3 : Int32)) ∧ Fld Z h230 a1 "com/example/totality/totality/core/Windows" "self" "I" (.int s1) ∧ Fld Z h230 a1 "com/example/totality/totality/core/Windows" "lowest" "J" (.long lo227) ∧ Fld Z h230 a1 "com/example/totality/totality/core/Windows" "atLowest" "I" (.int al228) ∧ Fld Z h230 a1 "com/example/totality/totality/core/Windows" "starts" "[J" (.ref t1) ∧ ArF Z h230 t1 .long 3 (fun q => (.long (vals q))) ∧ ∀ t, Steps p.tables e below (T230.setTop (mkF m 89 #[.val (.ref a1), .val (.int (2 : Int32))] [])) t → Steps p.tables e below (T226.setTop (mkF m 22 #[.val (.ref a1), .val (.int (2 : Int32))] [])) t := by
    have S238 : ∀ t, Steps p.tables e below (T226.setTop (mkF m 24 #[.val (.ref a1), .val (.int (2 : Int32))] [(.ref a1), (.int (2 : Int32))])) t → Steps p.tables e below (T226.setTop (mkF m 22 #[.val (.ref a1), .val (.int (2 : Int32))] [])) t := by
      intro t kt
      show Steps p.tables e below (T226.setTop (mkF m 22 #[.val (.ref a1), .val (.int (2 : Int32))] [])) _
      refine XS.iloadN X226.here hx rfl (hb hby d7_22) rfl ?_
      show Steps p.tables e below (T226.setTop (mkF m 23 #[.val (.ref a1), .val (.int (2 : Int32))] [(.int (2 : Int32))])) _
      refine XS.aloadN X226.here hx rfl (hb hby d7_23) rfl rfl ?_
      exact kt
    obtain ⟨T239, X239, e239, st239⟩ := getF X226 hx hZ hown (host := "") (Or.inl (hw _ (List.mem_of_getElem? (i := 11) rfl))) Via.refl e226 F172 (g := (mkF m 24 #[.val (.ref a1), .val (.int (2 : Int32))] [(.ref a1), (.int (2 : Int32))])) rfl rfl (hb hby d7_24)
    by_cases hc240 : (2 : Int32) = s1
    · have S241 : ∀ t, Steps p.tables e below (T239.setTop (mkF m 89 #[.val (.ref a1), .val (.int (2 : Int32))] [])) t → Steps p.tables e below (T239.setTop (mkF m 27 #[.val (.ref a1), .val (.int (2 : Int32))] [(.int s1), (.int (2 : Int32))])) t := by
        intro t kt
        show Steps p.tables e below (T239.setTop (mkF m 27 #[.val (.ref a1), .val (.int (2 : Int32))] [(.int s1), (.int (2 : Int32))])) _
        refine XS.icmpNo X239.here hx rfl (hb hby d7_27) rfl (teq hc240).2 ?_
        show Steps p.tables e below (T239.setTop (mkF m 30 #[.val (.ref a1), .val (.int (2 : Int32))] [])) _
        refine XS.goto X239.here hx rfl (pc0 := 30) (pc' := 89) rfl (hb hby d7_30) (by decide) (by decide) ?_
        exact kt
      exact ⟨T239, h169, _, lo166, al167, X239, e239, N169, Z169, K169, F170, F171, F172, F173, F174, F175, F176, (fun t k => (S238 t (st239 t (S241 t k))))⟩
    · have S242 : ∀ t, Steps p.tables e below (T239.setTop (mkF m 34 #[.val (.ref a1), .val (.int (2 : Int32))] [(.ref a1)])) t → Steps p.tables e below (T239.setTop (mkF m 27 #[.val (.ref a1), .val (.int (2 : Int32))] [(.int s1), (.int (2 : Int32))])) t := by
        intro t kt
        show Steps p.tables e below (T239.setTop (mkF m 27 #[.val (.ref a1), .val (.int (2 : Int32))] [(.int s1), (.int (2 : Int32))])) _
        refine XS.icmpYes X239.here hx rfl (pc0 := 27) (pc' := 33) rfl (hb hby d7_27) rfl (feq hc240).2 (by decide) (by decide) ?_
        show Steps p.tables e below (T239.setTop (mkF m 33 #[.val (.ref a1), .val (.int (2 : Int32))] [])) _
        refine XS.aloadN X239.here hx rfl (hb hby d7_33) rfl rfl ?_
        exact kt
      obtain ⟨T243, X243, e243, st243⟩ := getF X239 hx hZ hown (host := "") (Or.inl (hw _ (List.mem_of_getElem? (i := 23) rfl))) Via.refl e239 F175 (g := (mkF m 34 #[.val (.ref a1), .val (.int (2 : Int32))] [(.ref a1)])) rfl rfl (hb hby d7_34)
      have S244 : ∀ t, Steps p.tables e below (T243.setTop (mkF m 40 #[.val (.ref a1), .val (.int (2 : Int32))] [(.ref a1), (.long (vals 2))])) t → Steps p.tables e below (T243.setTop (mkF m 37 #[.val (.ref a1), .val (.int (2 : Int32))] [(.ref t1)])) t := by
        intro t kt
        show Steps p.tables e below (T243.setTop (mkF m 37 #[.val (.ref a1), .val (.int (2 : Int32))] [(.ref t1)])) _
        refine XS.iloadN X243.here hx rfl (hb hby d7_37) rfl ?_
        show Steps p.tables e below (T243.setTop (mkF m 38 #[.val (.ref a1), .val (.int (2 : Int32))] [(.int (2 : Int32)), (.ref t1)])) _
        refine ArF.ldJ X243 hx hZ e243 F176 (i := 2) (by decide) (by decide) (v := (vals 2)) rfl (g := (mkF m 38 #[.val (.ref a1), .val (.int (2 : Int32))] [(.int (2 : Int32)), (.ref t1)])) rfl rfl (hb hby d7_38) _ ?_
        show Steps p.tables e below (T243.setTop (mkF m 39 #[.val (.ref a1), .val (.int (2 : Int32))] [(.long (vals 2))])) _
        refine XS.aloadN X243.here hx rfl (hb hby d7_39) rfl rfl ?_
        exact kt
      obtain ⟨T245, X245, e245, st245⟩ := getF X243 hx hZ hown (host := "") (Or.inl (hw _ (List.mem_of_getElem? (i := 13) rfl))) Via.refl e243 F173 (g := (mkF m 40 #[.val (.ref a1), .val (.int (2 : Int32))] [(.ref a1), (.long (vals 2))])) rfl rfl (hb hby d7_40)
      have S246 : ∀ t, Steps p.tables e below (T245.setTop (mkF m 44 #[.val (.ref a1), .val (.int (2 : Int32))] [(.int (lcmpW (vals 2) lo166))])) t → Steps p.tables e below (T245.setTop (mkF m 43 #[.val (.ref a1), .val (.int (2 : Int32))] [(.long lo166), (.long (vals 2))])) t := by
        intro t kt
        show Steps p.tables e below (T245.setTop (mkF m 43 #[.val (.ref a1), .val (.int (2 : Int32))] [(.long lo166), (.long (vals 2))])) _
        refine XS.lcmp X245.here hx rfl (hb hby d7_43) rfl ?_
        exact kt
      by_cases hc247 : (vals 2) < lo166
      · have S248 : ∀ t, Steps p.tables e below (T245.setTop (mkF m 49 #[.val (.ref a1), .val (.int (2 : Int32))] [(.ref a1), (.ref a1)])) t → Steps p.tables e below (T245.setTop (mkF m 44 #[.val (.ref a1), .val (.int (2 : Int32))] [(.int (lcmpW (vals 2) lo166))])) t := by
          intro t kt
          show Steps p.tables e below (T245.setTop (mkF m 44 #[.val (.ref a1), .val (.int (2 : Int32))] [(.int (lcmpW (vals 2) lo166))])) _
          refine XS.ifNo X245.here hx rfl (hb hby d7_44) rfl ((if0 _ _).trans (tlt ((lw_lt (vals 2) lo166).mpr hc247)).2.1) ?_
          show Steps p.tables e below (T245.setTop (mkF m 47 #[.val (.ref a1), .val (.int (2 : Int32))] [])) _
          refine XS.aloadN X245.here hx rfl (hb hby d7_47) rfl rfl ?_
          show Steps p.tables e below (T245.setTop (mkF m 48 #[.val (.ref a1), .val (.int (2 : Int32))] [(.ref a1)])) _
          refine XS.aloadN X245.here hx rfl (hb hby d7_48) rfl rfl ?_
          exact kt
        obtain ⟨T249, X249, e249, st249⟩ := getF X245 hx hZ hown (host := "") (Or.inl (hw _ (List.mem_of_getElem? (i := 23) rfl))) Via.refl e245 F175 (g := (mkF m 49 #[.val (.ref a1), .val (.int (2 : Int32))] [(.ref a1), (.ref a1)])) rfl rfl (hb hby d7_49)
        have S250 : ∀ t, Steps p.tables e below (T249.setTop (mkF m 54 #[.val (.ref a1), .val (.int (2 : Int32))] [(.long (vals 2)), (.ref a1)])) t → Steps p.tables e below (T249.setTop (mkF m 52 #[.val (.ref a1), .val (.int (2 : Int32))] [(.ref t1), (.ref a1)])) t := by
          intro t kt
          show Steps p.tables e below (T249.setTop (mkF m 52 #[.val (.ref a1), .val (.int (2 : Int32))] [(.ref t1), (.ref a1)])) _
          refine XS.iloadN X249.here hx rfl (hb hby d7_52) rfl ?_
          show Steps p.tables e below (T249.setTop (mkF m 53 #[.val (.ref a1), .val (.int (2 : Int32))] [(.int (2 : Int32)), (.ref t1), (.ref a1)])) _
          refine ArF.ldJ X249 hx hZ e249 F176 (i := 2) (by decide) (by decide) (v := (vals 2)) rfl (g := (mkF m 53 #[.val (.ref a1), .val (.int (2 : Int32))] [(.int (2 : Int32)), (.ref t1), (.ref a1)])) rfl rfl (hb hby d7_53) _ ?_
          exact kt
        obtain ⟨T251, h251, X251, e251, W251, st251⟩ := putF X249 hx hZ hown (host := "") (Or.inl (hw _ (List.mem_of_getElem? (i := 13) rfl))) Via.refl e249 F173 F170 (Or.inl (hw _ (List.mem_of_getElem? (i := 14) rfl))) (hw _ (List.mem_of_getElem? (i := 1) rfl)) (ty := .long) (by decide) rfl rfl (g := (mkF m 54 #[.val (.ref a1), .val (.int (2 : Int32))] [(.long (vals 2)), (.ref a1)])) rfl rfl (hb hby d7_54)
        have z252 : n0 ≤ h251.size := Nat.le_trans Z169 (Keep.of_wr W251).1
        have N253 := Fr.snoc X251 N169 g_a1
        have Fw251 := F173.same W251
        have S254 : ∀ t, Steps p.tables e below (T251.setTop (mkF m 59 #[.val (.ref a1), .val (.int (2 : Int32))] [(.int (1 : Int32)), (.ref a1)])) t → Steps p.tables e below (T251.setTop (mkF m 57 #[.val (.ref a1), .val (.int (2 : Int32))] [])) t := by
          intro t kt
          show Steps p.tables e below (T251.setTop (mkF m 57 #[.val (.ref a1), .val (.int (2 : Int32))] [])) _
          refine XS.aloadN X251.here hx rfl (hb hby d7_57) rfl rfl ?_
          show Steps p.tables e below (T251.setTop (mkF m 58 #[.val (.ref a1), .val (.int (2 : Int32))] [(.ref a1)])) _
          refine XS.iconst X251.here hx rfl (hb hby d7_58) ?_
          exact kt
        have f255 := (F174.other W251 (Or.inr (slot_ne (Or.inl (hw _ (List.mem_of_getElem? (i := 16) rfl))) (Or.inl (hw _ (List.mem_of_getElem? (i := 14) rfl))) (by decide) (t := .int) (t' := .long) (by decide) (by decide))))
        have f256 := (F170.wr W251)
        obtain ⟨T257, h257, X257, e257, W257, st257⟩ := putF X251 hx hZ hown (host := "") (Or.inl (hw _ (List.mem_of_getElem? (i := 15) rfl))) Via.refl e251 f255 f256 (Or.inl (hw _ (List.mem_of_getElem? (i := 16) rfl))) (hw _ (List.mem_of_getElem? (i := 1) rfl)) (ty := .int) (by decide) rfl rfl (g := (mkF m 59 #[.val (.ref a1), .val (.int (2 : Int32))] [(.int (1 : Int32)), (.ref a1)])) rfl rfl (hb hby d7_59)
        have z258 : n0 ≤ h257.size := Nat.le_trans z252 (Keep.of_wr W257).1
        have N259 := Fr.snoc X257 N253 g_a1
        have Fw257 := f255.same W257
        have f260 := (f256.wr W257)
        have f261 := ((F171.other W251 (Or.inr (slot_ne (Or.inr (hw _ (List.mem_of_getElem? (i := 10) rfl))) (Or.inl (hw _ (List.mem_of_getElem? (i := 14) rfl))) (by decide) (t := .int) (t' := .long) (by decide) (by decide)))).other W257 (Or.inr (slot_ne (Or.inr (hw _ (List.mem_of_getElem? (i := 10) rfl))) (Or.inl (hw _ (List.mem_of_getElem? (i := 16) rfl))) (by decide) (t := .int) (t' := .int) (by decide) (by decide))))
        have f262 := ((F172.other W251 (Or.inr (slot_ne (Or.inr (hw _ (List.mem_of_getElem? (i := 12) rfl))) (Or.inl (hw _ (List.mem_of_getElem? (i := 14) rfl))) (by decide) (t := .int) (t' := .long) (by decide) (by decide)))).other W257 (Or.inr (slot_ne (Or.inr (hw _ (List.mem_of_getElem? (i := 12) rfl))) (Or.inl (hw _ (List.mem_of_getElem? (i := 16) rfl))) (by decide) (t := .int) (t' := .int) (by decide) (by decide))))
        have f263 := (Fw251.other W257 (Or.inr (slot_ne (Or.inl (hw _ (List.mem_of_getElem? (i := 14) rfl))) (Or.inl (hw _ (List.mem_of_getElem? (i := 16) rfl))) (by decide) (t := .long) (t' := .int) (by decide) (by decide))))
        have f264 := ((F175.other W251 (Or.inr (slot_ne (Or.inl (hw _ (List.mem_of_getElem? (i := 24) rfl))) (Or.inl (hw _ (List.mem_of_getElem? (i := 14) rfl))) (by decide) (t := (.array .long)) (t' := .long) (by decide) (by decide)))).other W257 (Or.inr (slot_ne (Or.inl (hw _ (List.mem_of_getElem? (i := 24) rfl))) (Or.inl (hw _ (List.mem_of_getElem? (i := 16) rfl))) (by decide) (t := (.array .long)) (t' := .int) (by decide) (by decide))))
        have f265 := ((F176.other W251 (Ne.symm ne_a1_t1)).other W257 (Ne.symm ne_a1_t1))
        have S266 : ∀ t, Steps p.tables e below (T257.setTop (mkF m 89 #[.val (.ref a1), .val (.int (2 : Int32))] [])) t → Steps p.tables e below (T257.setTop (mkF m 62 #[.val (.ref a1), .val (.int (2 : Int32))] [])) t := by
          intro t kt
          show Steps p.tables e below (T257.setTop (mkF m 62 #[.val (.ref a1), .val (.int (2 : Int32))] [])) _
          refine XS.goto X257.here hx rfl (pc0 := 62) (pc' := 89) rfl (hb hby d7_62) (by decide) (by decide) ?_
          exact kt
        exact ⟨T257, h257, _, (vals 2), (1 : Int32), X257, e257, N259, z258, ((K169.wr W251 (Or.inl (List.mem_of_getElem? (i := 0) rfl))).wr W257 (Or.inl (List.mem_of_getElem? (i := 0) rfl))), f260, f261, f262, f263, Fw257, f264, f265, (fun t k => (S238 t (st239 t (S242 t (st243 t (S244 t (st245 t (S246 t (S248 t (st249 t (S250 t (st251 t (S254 t (st257 t (S266 t k)))))))))))))))⟩
      · have S267 : ∀ t, Steps p.tables e below (T245.setTop (mkF m 66 #[.val (.ref a1), .val (.int (2 : Int32))] [(.ref a1)])) t → Steps p.tables e below (T245.setTop (mkF m 44 #[.val (.ref a1), .val (.int (2 : Int32))] [(.int (lcmpW (vals 2) lo166))])) t := by
          intro t kt
          show Steps p.tables e below (T245.setTop (mkF m 44 #[.val (.ref a1), .val (.int (2 : Int32))] [(.int (lcmpW (vals 2) lo166))])) _
          refine XS.ifYes X245.here hx rfl (pc0 := 44) (pc' := 65) rfl (hb hby d7_44) rfl ((if0 _ _).trans (flt (fun q => hc247 ((lw_lt (vals 2) lo166).mp q))).2.1) (by decide) (by decide) ?_
          show Steps p.tables e below (T245.setTop (mkF m 65 #[.val (.ref a1), .val (.int (2 : Int32))] [])) _
          refine XS.aloadN X245.here hx rfl (hb hby d7_65) rfl rfl ?_
          exact kt
        obtain ⟨T268, X268, e268, st268⟩ := getF X245 hx hZ hown (host := "") (Or.inl (hw _ (List.mem_of_getElem? (i := 23) rfl))) Via.refl e245 F175 (g := (mkF m 66 #[.val (.ref a1), .val (.int (2 : Int32))] [(.ref a1)])) rfl rfl (hb hby d7_66)
        have S269 : ∀ t, Steps p.tables e below (T268.setTop (mkF m 72 #[.val (.ref a1), .val (.int (2 : Int32))] [(.ref a1), (.long (vals 2))])) t → Steps p.tables e below (T268.setTop (mkF m 69 #[.val (.ref a1), .val (.int (2 : Int32))] [(.ref t1)])) t := by
          intro t kt
          show Steps p.tables e below (T268.setTop (mkF m 69 #[.val (.ref a1), .val (.int (2 : Int32))] [(.ref t1)])) _
          refine XS.iloadN X268.here hx rfl (hb hby d7_69) rfl ?_
          show Steps p.tables e below (T268.setTop (mkF m 70 #[.val (.ref a1), .val (.int (2 : Int32))] [(.int (2 : Int32)), (.ref t1)])) _
          refine ArF.ldJ X268 hx hZ e268 F176 (i := 2) (by decide) (by decide) (v := (vals 2)) rfl (g := (mkF m 70 #[.val (.ref a1), .val (.int (2 : Int32))] [(.int (2 : Int32)), (.ref t1)])) rfl rfl (hb hby d7_70) _ ?_
          show Steps p.tables e below (T268.setTop (mkF m 71 #[.val (.ref a1), .val (.int (2 : Int32))] [(.long (vals 2))])) _
          refine XS.aloadN X268.here hx rfl (hb hby d7_71) rfl rfl ?_
          exact kt
        obtain ⟨T270, X270, e270, st270⟩ := getF X268 hx hZ hown (host := "") (Or.inl (hw _ (List.mem_of_getElem? (i := 13) rfl))) Via.refl e268 F173 (g := (mkF m 72 #[.val (.ref a1), .val (.int (2 : Int32))] [(.ref a1), (.long (vals 2))])) rfl rfl (hb hby d7_72)
        have S271 : ∀ t, Steps p.tables e below (T270.setTop (mkF m 76 #[.val (.ref a1), .val (.int (2 : Int32))] [(.int (lcmpW (vals 2) lo166))])) t → Steps p.tables e below (T270.setTop (mkF m 75 #[.val (.ref a1), .val (.int (2 : Int32))] [(.long lo166), (.long (vals 2))])) t := by
          intro t kt
          show Steps p.tables e below (T270.setTop (mkF m 75 #[.val (.ref a1), .val (.int (2 : Int32))] [(.long lo166), (.long (vals 2))])) _
          refine XS.lcmp X270.here hx rfl (hb hby d7_75) rfl ?_
          exact kt
        by_cases hc272 : (vals 2) = lo166
        · have S273 : ∀ t, Steps p.tables e below (T270.setTop (mkF m 81 #[.val (.ref a1), .val (.int (2 : Int32))] [(.ref a1), (.ref a1)])) t → Steps p.tables e below (T270.setTop (mkF m 76 #[.val (.ref a1), .val (.int (2 : Int32))] [(.int (lcmpW (vals 2) lo166))])) t := by
            intro t kt
            show Steps p.tables e below (T270.setTop (mkF m 76 #[.val (.ref a1), .val (.int (2 : Int32))] [(.int (lcmpW (vals 2) lo166))])) _
            refine XS.ifNo X270.here hx rfl (hb hby d7_76) rfl ((if0 _ _).trans (teq ((lw_eq (vals 2) lo166).mpr hc272)).2) ?_
            show Steps p.tables e below (T270.setTop (mkF m 79 #[.val (.ref a1), .val (.int (2 : Int32))] [])) _
            refine XS.aloadN X270.here hx rfl (hb hby d7_79) rfl rfl ?_
            show Steps p.tables e below (T270.setTop (mkF m 80 #[.val (.ref a1), .val (.int (2 : Int32))] [(.ref a1)])) _
            refine XS.dup X270.here hx rfl (hb hby d7_80) rfl rfl ?_
            exact kt
          obtain ⟨T274, X274, e274, st274⟩ := getF X270 hx hZ hown (host := "") (Or.inl (hw _ (List.mem_of_getElem? (i := 15) rfl))) Via.refl e270 F174 (g := (mkF m 81 #[.val (.ref a1), .val (.int (2 : Int32))] [(.ref a1), (.ref a1)])) rfl rfl (hb hby d7_81)
          have S275 : ∀ t, Steps p.tables e below (T274.setTop (mkF m 86 #[.val (.ref a1), .val (.int (2 : Int32))] [(.int (al167 + (1 : Int32))), (.ref a1)])) t → Steps p.tables e below (T274.setTop (mkF m 84 #[.val (.ref a1), .val (.int (2 : Int32))] [(.int al167), (.ref a1)])) t := by
            intro t kt
            show Steps p.tables e below (T274.setTop (mkF m 84 #[.val (.ref a1), .val (.int (2 : Int32))] [(.int al167), (.ref a1)])) _
            refine XS.iconst X274.here hx rfl (hb hby d7_84) ?_
            show Steps p.tables e below (T274.setTop (mkF m 85 #[.val (.ref a1), .val (.int (2 : Int32))] [(.int (1 : Int32)), (.int al167), (.ref a1)])) _
            refine XS.iadd X274.here hx rfl (hb hby d7_85) rfl ?_
            exact kt
          obtain ⟨T276, h276, X276, e276, W276, st276⟩ := putF X274 hx hZ hown (host := "") (Or.inl (hw _ (List.mem_of_getElem? (i := 15) rfl))) Via.refl e274 F174 F170 (Or.inl (hw _ (List.mem_of_getElem? (i := 16) rfl))) (hw _ (List.mem_of_getElem? (i := 1) rfl)) (ty := .int) (by decide) rfl rfl (g := (mkF m 86 #[.val (.ref a1), .val (.int (2 : Int32))] [(.int (al167 + (1 : Int32))), (.ref a1)])) rfl rfl (hb hby d7_86)
          have z277 : n0 ≤ h276.size := Nat.le_trans Z169 (Keep.of_wr W276).1
          have N278 := Fr.snoc X276 N169 g_a1
          have Fw276 := F174.same W276
          have f279 := (F170.wr W276)
          have f280 := (F171.other W276 (Or.inr (slot_ne (Or.inr (hw _ (List.mem_of_getElem? (i := 10) rfl))) (Or.inl (hw _ (List.mem_of_getElem? (i := 16) rfl))) (by decide) (t := .int) (t' := .int) (by decide) (by decide))))
          have f281 := (F172.other W276 (Or.inr (slot_ne (Or.inr (hw _ (List.mem_of_getElem? (i := 12) rfl))) (Or.inl (hw _ (List.mem_of_getElem? (i := 16) rfl))) (by decide) (t := .int) (t' := .int) (by decide) (by decide))))
          have f282 := (F173.other W276 (Or.inr (slot_ne (Or.inl (hw _ (List.mem_of_getElem? (i := 14) rfl))) (Or.inl (hw _ (List.mem_of_getElem? (i := 16) rfl))) (by decide) (t := .long) (t' := .int) (by decide) (by decide))))
          have f283 := (F175.other W276 (Or.inr (slot_ne (Or.inl (hw _ (List.mem_of_getElem? (i := 24) rfl))) (Or.inl (hw _ (List.mem_of_getElem? (i := 16) rfl))) (by decide) (t := (.array .long)) (t' := .int) (by decide) (by decide))))
          have f284 := (F176.other W276 (Ne.symm ne_a1_t1))
          exact ⟨T276, h276, _, lo166, (al167 + (1 : Int32)), X276, e276, N278, z277, (K169.wr W276 (Or.inl (List.mem_of_getElem? (i := 0) rfl))), f279, f280, f281, f282, Fw276, f283, f284, (fun t k => (S238 t (st239 t (S242 t (st243 t (S244 t (st245 t (S246 t (S267 t (st268 t (S269 t (st270 t (S271 t (S273 t (st274 t (S275 t (st276 t k)))))))))))))))))⟩
        · have S285 : ∀ t, Steps p.tables e below (T270.setTop (mkF m 89 #[.val (.ref a1), .val (.int (2 : Int32))] [])) t → Steps p.tables e below (T270.setTop (mkF m 76 #[.val (.ref a1), .val (.int (2 : Int32))] [(.int (lcmpW (vals 2) lo166))])) t := by
            intro t kt
            show Steps p.tables e below (T270.setTop (mkF m 76 #[.val (.ref a1), .val (.int (2 : Int32))] [(.int (lcmpW (vals 2) lo166))])) _
            refine XS.ifYes X270.here hx rfl (pc0 := 76) (pc' := 89) rfl (hb hby d7_76) rfl ((if0 _ _).trans (feq (fun q => hc272 ((lw_eq (vals 2) lo166).mp q))).2) (by decide) (by decide) ?_
            exact kt
          exact ⟨T270, h169, _, lo166, al167, X270, e270, N169, Z169, K169, F170, F171, F172, F173, F174, F175, F176, (fun t k => (S238 t (st239 t (S242 t (st243 t (S244 t (st245 t (S246 t (S267 t (st268 t (S269 t (st270 t (S271 t (S285 t k))))))))))))))⟩
  have S286 : ∀ t, Steps p.tables e below (T230.setTop (mkF m 16 #[.val (.ref a1), .val (.int (3 : Int32))] [(.ref a1), (.int (3 : Int32))])) t → Steps p.tables e below (T230.setTop (mkF m 89 #[.val (.ref a1), .val (.int (2 : Int32))] [])) t := by
    intro t kt
    show Steps p.tables e below (T230.setTop (mkF m 89 #[.val (.ref a1), .val (.int (2 : Int32))] [])) _
    refine XS.iinc X230.here hx rfl (hb hby d7_89) rfl (l' := #[.val (.ref a1), .val (.int (3 : Int32))]) rfl ?_
    show Steps p.tables e below (T230.setTop (mkF m 92 #[.val (.ref a1), .val (.int (3 : Int32))] [])) _
    refine XS.goto X230.here hx rfl (pc0 := 92) (pc' := 14) rfl (hb hby d7_92) (by decide) (by decide) ?_
    show Steps p.tables e below (T230.setTop (mkF m 14 #[.val (.ref a1), .val (.int (3 : Int32))] [])) _
    refine XS.iloadN X230.here hx rfl (hb hby d7_14) rfl ?_
    show Steps p.tables e below (T230.setTop (mkF m 15 #[.val (.ref a1), .val (.int (3 : Int32))] [(.int (3 : Int32))])) _
    refine XS.aloadN X230.here hx rfl (hb hby d7_15) rfl rfl ?_
    exact kt
  obtain ⟨T287, X287, e287, st287⟩ := getF X230 hx hZ hown (host := "") (Or.inl (hw _ (List.mem_of_getElem? (i := 9) rfl))) Via.refl e230 F232 (g := (mkF m 16 #[.val (.ref a1), .val (.int (3 : Int32))] [(.ref a1), (.int (3 : Int32))])) rfl rfl (hb hby d7_16)
  have S288 : ∀ t, Steps p.tables e below (T287.setTop (mkF m 95 #[.val (.ref a1), .val (.int (3 : Int32))] [])) t → Steps p.tables e below (T287.setTop (mkF m 19 #[.val (.ref a1), .val (.int (3 : Int32))] [(.int (3 : Int32)), (.int (3 : Int32))])) t := by
    intro t kt
    show Steps p.tables e below (T287.setTop (mkF m 19 #[.val (.ref a1), .val (.int (3 : Int32))] [(.int (3 : Int32)), (.int (3 : Int32))])) _
    refine XS.icmpYes X287.here hx rfl (pc0 := 19) (pc' := 95) rfl (hb hby d7_19) rfl (flt (by decide)).2.1 (by decide) (by decide) ?_
    exact kt
  have C289 : ∀ t, Steps p.tables e below (T287.setTop (mkF m 95 #[.val (.ref a1), .val (.int (3 : Int32))] [])) t → Steps p.tables e below (s₁.setTop (mkF m 0 #[.val (.ref a1), .unset] [])) t := (fun t k => (S80 t (st81 t (S84 t (st87 t (S90 t (st92 t (S95 t (J96 t (S164 t (st165 t (S168 t (J169 t (S225 t (st226 t (S229 t (J230 t (S286 t (st287 t (S288 t k))))))))))))))))))))
  obtain ⟨fs, hr, hrun, hended, hW, hsame⟩ := X287.leave (v := none) (fun _ => rfl)
  refine ⟨_, _, pre0 _ (C289 _ ?_), hrun, hended, _, _, rfl, ?_, ⟨_, rfl⟩, hW, hsame.mono (by decide) (by decide)⟩
  · exact X287.returnOut hx Bd.returns (hb hby d7_95) hr
  · show Q_rm7 Z a1 t1 s1 lo1 al1 vals h0 n0 _ T287.heap _
    rw [e287]
    exact ⟨rfl, N230, K230, F232, F233, F236, _, _, F234, F235⟩

theorem own_same {Z : State} {h : Heap} {n0 : Nat} {a : Addr} {s : Int32} {vals : Nat → Int64} {i : Nat} {v : Int64} (q : v = vals i) (H : own_WS Z h n0 a s vals) (hi : i < 3) : own_WS Z h n0 a s (own_put vals i v) := by
  have : own_put vals i v = vals := by
    funext k
    unfold own_put
    split
    · rename_i e; rw [e, q]
    · rfl
  rw [this]; exact H
theorem ef_rm_set0 (m : MethodId) (x0 : Addr) (x1 : Int32) (x2 : Int64) : entryFrame m #[(.ref x0), (.int x1), (.long x2)] 6 = mkF m 0 #[.val (.ref x0), .val (.int x1), .val (.long x2), .second, .unset, .unset] [] := by first | (simp [entryFrame, mkF, argsToLocals, Value.category]; done) | rfl
def Q_rm_set0 (Z : State) (a1 : Addr) (i1 : Int32) (v1 : Int64) (i : Nat) (s1 : Int32) (lo1 : Int64) (al1 : Int32) (vals : Nat → Int64) (h0 : Heap) (n0 : Nat) (v : Option Value) (h : Heap) (L : List Loc) : Prop := v = none ∧ Fr n0 L ∧ n0 ≤ h.size ∧ own_WS Z h n0 a1 s1 (own_put vals i v1)
set_option maxRecDepth 65536 in
set_option maxHeartbeats 40000000 in
theorem rm_set0 (l : Launch) (Z : State) (a0 : Array Value) (hw : ∀ d ∈ tables_1, d.before a0 Z = true) (ws : List Jvm.Cond) (a1 : Addr) (i1 : Int32) (v1 : Int64) (i : Nat) (s1 : Int32) (lo1 : Int64) (al1 : Int32) (vals : Nat → Int64) (h0 : Heap) (n0 : Nat) (Z0 : n0 ≤ h0.size) (F290 : Exa Z h0 a1 "com/example/totality/totality/core/Windows") (F291 : Fld Z h0 a1 "com/example/totality/totality/core/Windows" "nodes" "I" (.int (3 : Int32))) (F292 : Fld Z h0 a1 "com/example/totality/totality/core/Windows" "self" "I" (.int s1)) (F293 : Fld Z h0 a1 "com/example/totality/totality/core/Windows" "lowest" "J" (.long lo1)) (F294 : Fld Z h0 a1 "com/example/totality/totality/core/Windows" "atLowest" "I" (.int al1)) (F295 : Fld Z h0 a1 "com/example/totality/totality/core/Windows" "starts" "[J" .null) (g_a1 : n0 ≤ a1) (H : own_WS Z h0 n0 a1 s1 vals) (hi : own_ix i1 i) (hz : ∀ i, i < 3 → vals i = 0) :
    MetFree l (⟨"com/example/totality/totality/core/Windows", "set", "(IJ)V"⟩ : MethodName) (head1 (Jvm.Cond.code (⟨"com/example/totality/totality/core/Windows", "set", "(IJ)V"⟩ : MethodName) prog_59_method_4_code 6 none :: ws) ({ frames := 1, cells := 1, slots := 3, locals := 17 } : Room)) (fun a U => a = #[(.ref a1), (.int i1), (.long v1)] ∧ Z.Warmed39 U.vm ∧ U.heap = h0) (fun _ _ _ _ _ => True) (fun _ U o U' => ∃ v L, o = .returned v ∧ Q_rm_set0 Z a1 i1 v1 i s1 lo1 al1 vals h0 n0 v U'.heap L ∧ FrameEnd U o U' L ({ frames := 1, cells := 1, slots := 3, locals := 17 } : Room).cells ({ frames := 1, cells := 1, slots := 3, locals := 17 } : Room).slots) := by
  refine MetFree.of_bodySF (plainFor_of_name pn_0) hisR ?_
  intro p e s m args below meth c s₁ Bd hml0 hP hK
  obtain ⟨rfl, hZ, hh⟩ := hP
  have hx := Bd.exec
  have hby := Bd.bytes
  have hml : c.maxLocals = 6 := hml0
  have hown : s.vm.findClass "com/example/totality/totality/core/Windows" = some m.cls := findClass_of_methodNamed Bd.named
  have hnm := (name_of_methodNamed Bd.named Bd.method).1
  have X0 : Stand p l e ({ frames := 1, cells := 1, slots := 3, locals := 17 } : Room) s m #[(.ref a1), (.int i1), (.long v1)] below meth c s₁ [] 0 0 := Stand.of_body Bd
  have e0 : s₁.heap = h0 := by rw [← hh, Bd.state]; rfl
  have N0 := Fr.nil n0
  have pre0 : ∀ t, Steps p.tables e below (s₁.setTop (mkF m 0 #[.val (.ref a1), .val (.int i1), .val (.long v1), .second, .unset, .unset] [])) t → Steps p.tables e below (s₁.setTop (entryFrame m #[(.ref a1), (.int i1), (.long v1)] 6)) t := fun t k => castTop (ef_rm_set0 m a1 i1 v1) k
  have S296 : ∀ t, Steps p.tables e below (s₁.setTop (mkF m 2 #[.val (.ref a1), .val (.int i1), .val (.long v1), .second, .unset, .unset] [(.int i1), (.ref a1)])) t → Steps p.tables e below (s₁.setTop (mkF m 0 #[.val (.ref a1), .val (.int i1), .val (.long v1), .second, .unset, .unset] [])) t := by
    intro t kt
    show Steps p.tables e below (s₁.setTop (mkF m 0 #[.val (.ref a1), .val (.int i1), .val (.long v1), .second, .unset, .unset] [])) _
    refine XS.aloadN X0.here hx rfl (hb hby d5_0) rfl rfl ?_
    show Steps p.tables e below (s₁.setTop (mkF m 1 #[.val (.ref a1), .val (.int i1), .val (.long v1), .second, .unset, .unset] [(.ref a1)])) _
    refine XS.iloadN X0.here hx rfl (hb hby d5_1) rfl ?_
    exact kt
  obtain ⟨cq297, kq297, q297a, q297b, q297c⟩ := isOf hZ e0 F290
  obtain ⟨_, _, ⟨T297, L297, k297, n297⟩, -, X297, ⟨Lc297, hQ297, l297, y297, z297⟩, st297⟩ := X0.virtualBack hx (y := (⟨"com/example/totality/totality/core/Windows", "start", "(I)J"⟩ : MethodName)) (z := (⟨"com/example/totality/totality/core/Windows", "start", "(I)J"⟩ : MethodName)) hown (mvT hZ (hw _ (List.mem_of_getElem? (i := 34) rfl))) (mvT hZ (hw _ (List.mem_of_getElem? (i := 19) rfl))) (notFace_of_selects (args := #[]) (mvT hZ (hw _ (List.mem_of_getElem? (i := 21) rfl)))) (mvT hZ (hw _ (List.mem_of_getElem? (i := 21) rfl))) (mvT hZ (hw _ (List.mem_of_getElem? (i := 20) rfl))) (by decide) (backOf (W := 0) (rm_start l Z a0 hw [] a1 i1 i s1 vals h0 n0 Z0 H hi) hZ (hw _ (List.mem_of_getElem? (i := 22) rfl)) (hw _ (List.mem_of_getElem? (i := 2) rfl)) (by decide) (by decide)) q297a q297c (g := (mkF m 2 #[.val (.ref a1), .val (.int i1), .val (.long v1), .second, .unset, .unset] [(.int i1), (.ref a1)])) rfl (by rw [hml]; rfl) (Steps.refl _) (argsL := [(.int i1)]) (rest := []) (lenOf pd_0 rfl) rfl (by show 2 * 0 + _ ≤ _; exact Nat.le_of_eq rfl) (hb hby d5_2) (fun _ _ => ⟨rfl, e0, (by decide : 0 + 0 ≤ _), (by decide : 0 + 0 ≤ _)⟩)
  dsimp only [Pt.U, Pt.locs, Pt.cells, Pt.slots] at X297 l297 y297 z297 st297 hQ297
  subst l297 y297 z297
  obtain ⟨rfl, N297q, e297⟩ := hQ297
  have N297 := Fr.app N0 N297q
  have S298 : ∀ t, Steps p.tables e below (T297.setTop (mkF m 11 #[.val (.ref a1), .val (.int i1), .val (.long v1), .second, .val (.long (vals i)), .second] [(.int (lcmpW v1 (vals i)))])) t → Steps p.tables e below (T297.setTop (mkF m 5 #[.val (.ref a1), .val (.int i1), .val (.long v1), .second, .unset, .unset] [(.long (vals i))])) t := by
    intro t kt
    show Steps p.tables e below (T297.setTop (mkF m 5 #[.val (.ref a1), .val (.int i1), .val (.long v1), .second, .unset, .unset] [(.long (vals i))])) _
    refine XS.lstore X297.here hx rfl (hb hby d5_5) rfl (l' := #[.val (.ref a1), .val (.int i1), .val (.long v1), .second, .val (.long (vals i)), .second]) rfl ?_
    show Steps p.tables e below (T297.setTop (mkF m 7 #[.val (.ref a1), .val (.int i1), .val (.long v1), .second, .val (.long (vals i)), .second] [])) _
    refine XS.lloadN X297.here hx rfl (hb hby d5_7) rfl ?_
    show Steps p.tables e below (T297.setTop (mkF m 8 #[.val (.ref a1), .val (.int i1), .val (.long v1), .second, .val (.long (vals i)), .second] [(.long v1)])) _
    refine XS.lload X297.here hx rfl (hb hby d5_8) rfl ?_
    show Steps p.tables e below (T297.setTop (mkF m 10 #[.val (.ref a1), .val (.int i1), .val (.long v1), .second, .val (.long (vals i)), .second] [(.long (vals i)), (.long v1)])) _
    refine XS.lcmp X297.here hx rfl (hb hby d5_10) rfl ?_
    exact kt
  by_cases hc299 : v1 = (vals i)
  · have S300 : ∀ t, Steps p.tables e below (T297.setTop (mkF m 14 #[.val (.ref a1), .val (.int i1), .val (.long v1), .second, .val (.long (vals i)), .second] [])) t → Steps p.tables e below (T297.setTop (mkF m 11 #[.val (.ref a1), .val (.int i1), .val (.long v1), .second, .val (.long (vals i)), .second] [(.int (lcmpW v1 (vals i)))])) t := by
      intro t kt
      show Steps p.tables e below (T297.setTop (mkF m 11 #[.val (.ref a1), .val (.int i1), .val (.long v1), .second, .val (.long (vals i)), .second] [(.int (lcmpW v1 (vals i)))])) _
      refine XS.ifNo X297.here hx rfl (hb hby d5_11) rfl ((if0 _ _).trans (teq ((lw_eq v1 (vals i)).mpr hc299)).2) ?_
      exact kt
    have C301 : ∀ t, Steps p.tables e below (T297.setTop (mkF m 14 #[.val (.ref a1), .val (.int i1), .val (.long v1), .second, .val (.long (vals i)), .second] [])) t → Steps p.tables e below (s₁.setTop (mkF m 0 #[.val (.ref a1), .val (.int i1), .val (.long v1), .second, .unset, .unset] [])) t := (fun t k => (S296 t (st297.trans (S298 t (S300 t k)))))
    obtain ⟨fs, hr, hrun, hended, hW, hsame⟩ := X297.leave (v := none) (fun _ => rfl)
    refine ⟨_, _, pre0 _ (C301 _ ?_), hrun, hended, _, _, rfl, ?_, ⟨_, rfl⟩, hW, hsame.mono (by decide) (by decide)⟩
    · exact X297.returnOut hx Bd.returns (hb hby d5_14) hr
    · show Q_rm_set0 Z a1 i1 v1 i s1 lo1 al1 vals h0 n0 _ T297.heap _
      rw [e297]
      exact ⟨rfl, N297, Z0, own_same hc299 H hi.2⟩
  · have S302 : ∀ t, Steps p.tables e below (T297.setTop (mkF m 16 #[.val (.ref a1), .val (.int i1), .val (.long v1), .second, .val (.long (vals i)), .second] [(.ref a1)])) t → Steps p.tables e below (T297.setTop (mkF m 11 #[.val (.ref a1), .val (.int i1), .val (.long v1), .second, .val (.long (vals i)), .second] [(.int (lcmpW v1 (vals i)))])) t := by
      intro t kt
      show Steps p.tables e below (T297.setTop (mkF m 11 #[.val (.ref a1), .val (.int i1), .val (.long v1), .second, .val (.long (vals i)), .second] [(.int (lcmpW v1 (vals i)))])) _
      refine XS.ifYes X297.here hx rfl (pc0 := 11) (pc' := 15) rfl (hb hby d5_11) rfl ((if0 _ _).trans (feq (fun q => hc299 ((lw_eq v1 (vals i)).mp q))).2) (by decide) (by decide) ?_
      show Steps p.tables e below (T297.setTop (mkF m 15 #[.val (.ref a1), .val (.int i1), .val (.long v1), .second, .val (.long (vals i)), .second] [])) _
      refine XS.aloadN X297.here hx rfl (hb hby d5_15) rfl rfl ?_
      exact kt
    obtain ⟨T303, X303, e303, st303⟩ := getF X297 hx hZ hown (host := "") (Or.inl (hw _ (List.mem_of_getElem? (i := 23) rfl))) Via.refl e297 F295 (g := (mkF m 16 #[.val (.ref a1), .val (.int i1), .val (.long v1), .second, .val (.long (vals i)), .second] [(.ref a1)])) rfl rfl (hb hby d5_16)
    have S304 : ∀ t, Steps p.tables e below (T303.setTop (mkF m 24 #[.val (.ref a1), .val (.int i1), .val (.long v1), .second, .val (.long (vals i)), .second] [(.ref a1), (.ref a1)])) t → Steps p.tables e below (T303.setTop (mkF m 19 #[.val (.ref a1), .val (.int i1), .val (.long v1), .second, .val (.long (vals i)), .second] [.null])) t := by
      intro t kt
      show Steps p.tables e below (T303.setTop (mkF m 19 #[.val (.ref a1), .val (.int i1), .val (.long v1), .second, .val (.long (vals i)), .second] [.null])) _
      refine XS.ifnonnullNo X303.here hx rfl (hb hby d5_19) rfl ?_
      show Steps p.tables e below (T303.setTop (mkF m 22 #[.val (.ref a1), .val (.int i1), .val (.long v1), .second, .val (.long (vals i)), .second] [])) _
      refine XS.aloadN X303.here hx rfl (hb hby d5_22) rfl rfl ?_
      show Steps p.tables e below (T303.setTop (mkF m 23 #[.val (.ref a1), .val (.int i1), .val (.long v1), .second, .val (.long (vals i)), .second] [(.ref a1)])) _
      refine XS.aloadN X303.here hx rfl (hb hby d5_23) rfl rfl ?_
      exact kt
    obtain ⟨T305, X305, e305, st305⟩ := getF X303 hx hZ hown (host := "") (Or.inl (hw _ (List.mem_of_getElem? (i := 9) rfl))) Via.refl e303 F291 (g := (mkF m 24 #[.val (.ref a1), .val (.int i1), .val (.long v1), .second, .val (.long (vals i)), .second] [(.ref a1), (.ref a1)])) rfl rfl (hb hby d5_24)
    obtain ⟨T306, h306, k306, X306, e306, E306, A306, st306⟩ := newP X305 hx hZ (hw _ (List.mem_of_getElem? (i := 35) rfl)) e305 (g := (mkF m 27 #[.val (.ref a1), .val (.int i1), .val (.long v1), .second, .val (.long (vals i)), .second] [(.int (3 : Int32)), (.ref a1)])) rfl (hb hby d5_27) rfl (by decide) (cap := 3) (by decide) (by decide) (by decide) (by decide)
    obtain ⟨b306, g306⟩ : ∃ z, z = h0.size := ⟨_, rfl⟩
    rw [← g306] at A306 st306
    have g_b306 : n0 ≤ b306 := Nat.le_trans Z0 (Nat.le_of_eq g306.symm)
    have K307 := (Keep.refl h0 [a1])
    have sz_b306 : h0.size ≤ b306 := Nat.le_trans K307.1 (Nat.le_of_eq g306.symm)
    have ne_a1_b306 : a1 ≠ b306 := Nat.ne_of_lt (Nat.lt_of_lt_of_le F290.lt (Nat.le_of_eq g306.symm))
    have z308 : n0 ≤ h306.size := Nat.le_trans Z0 E306.1
    have V306 : ArF Z h306 b306 .long 3 (fun _ => (.long (0 : Int64))) := ArF.new A306 (by decide) rfl
    have f309 := (F295.ext E306)
    have f310 := (F290.ext E306)
    obtain ⟨T311, h311, X311, e311, W311, st311⟩ := putF X306 hx hZ hown (host := "") (Or.inl (hw _ (List.mem_of_getElem? (i := 23) rfl))) Via.refl e306 f309 f310 (Or.inl (hw _ (List.mem_of_getElem? (i := 24) rfl))) (hw _ (List.mem_of_getElem? (i := 1) rfl)) (ty := (.array .long)) (by decide) rfl rfl (g := (mkF m 29 #[.val (.ref a1), .val (.int i1), .val (.long v1), .second, .val (.long (vals i)), .second] [(.ref b306), (.ref a1)])) rfl rfl (hb hby d5_29)
    have z312 : n0 ≤ h311.size := Nat.le_trans z308 (Keep.of_wr W311).1
    have N313 := Fr.snoc X311 N297 g_a1
    have Fw311 := f309.same W311
    have S314 : ∀ t, Steps p.tables e below (T311.setTop (mkF m 33 #[.val (.ref a1), .val (.int i1), .val (.long v1), .second, .val (.long (vals i)), .second] [(.ref a1)])) t → Steps p.tables e below (T311.setTop (mkF m 32 #[.val (.ref a1), .val (.int i1), .val (.long v1), .second, .val (.long (vals i)), .second] [])) t := by
      intro t kt
      show Steps p.tables e below (T311.setTop (mkF m 32 #[.val (.ref a1), .val (.int i1), .val (.long v1), .second, .val (.long (vals i)), .second] [])) _
      refine XS.aloadN X311.here hx rfl (hb hby d5_32) rfl rfl ?_
      exact kt
    obtain ⟨T315, X315, e315, st315⟩ := getF X311 hx hZ hown (host := "") (Or.inl (hw _ (List.mem_of_getElem? (i := 23) rfl))) Via.refl e311 Fw311 (g := (mkF m 33 #[.val (.ref a1), .val (.int i1), .val (.long v1), .second, .val (.long (vals i)), .second] [(.ref a1)])) rfl rfl (hb hby d5_33)
    have S316 : ∀ t, Steps p.tables e below (T315.setTop (mkF m 38 #[.val (.ref a1), .val (.int i1), .val (.long v1), .second, .val (.long (vals i)), .second] [(.long v1), (.int i1), (.ref b306)])) t → Steps p.tables e below (T315.setTop (mkF m 36 #[.val (.ref a1), .val (.int i1), .val (.long v1), .second, .val (.long (vals i)), .second] [(.ref b306)])) t := by
      intro t kt
      show Steps p.tables e below (T315.setTop (mkF m 36 #[.val (.ref a1), .val (.int i1), .val (.long v1), .second, .val (.long (vals i)), .second] [(.ref b306)])) _
      refine XS.iloadN X315.here hx rfl (hb hby d5_36) rfl ?_
      show Steps p.tables e below (T315.setTop (mkF m 37 #[.val (.ref a1), .val (.int i1), .val (.long v1), .second, .val (.long (vals i)), .second] [(.int i1), (.ref b306)])) _
      refine XS.lloadN X315.here hx rfl (hb hby d5_37) rfl ?_
      exact kt
    have f317 := (V306.other W311 (Ne.symm ne_a1_b306))
    obtain ⟨T318, h318, X318, e318, W318, V318, st318⟩ := ArF.stJ X315 hx hZ e315 f317 (i := i) hi.1 hi.2 (g := (mkF m 38 #[.val (.ref a1), .val (.int i1), .val (.long v1), .second, .val (.long (vals i)), .second] [(.long v1), (.int i1), (.ref b306)])) rfl rfl (hb hby d5_38)
    have z319 : n0 ≤ h318.size := Nat.le_trans z312 (Keep.of_wr W318).1
    have N320 := Fr.snoc X318 N313 g_b306
    have V318' := V318.congr (f' := (fun q => (.long (own_put vals i v1 q)))) (fun q hq => by simp only [own_put]; split <;> first | rfl | rw [hz q hq])
    have S321 : ∀ t, Steps p.tables e below (T318.setTop (mkF m 41 #[.val (.ref a1), .val (.int i1), .val (.long v1), .second, .val (.long (vals i)), .second] [(.ref a1), (.long v1)])) t → Steps p.tables e below (T318.setTop (mkF m 39 #[.val (.ref a1), .val (.int i1), .val (.long v1), .second, .val (.long (vals i)), .second] [])) t := by
      intro t kt
      show Steps p.tables e below (T318.setTop (mkF m 39 #[.val (.ref a1), .val (.int i1), .val (.long v1), .second, .val (.long (vals i)), .second] [])) _
      refine XS.lloadN X318.here hx rfl (hb hby d5_39) rfl ?_
      show Steps p.tables e below (T318.setTop (mkF m 40 #[.val (.ref a1), .val (.int i1), .val (.long v1), .second, .val (.long (vals i)), .second] [(.long v1)])) _
      refine XS.aloadN X318.here hx rfl (hb hby d5_40) rfl rfl ?_
      exact kt
    have f322 := (((F293.ext E306).other W311 (Or.inr (slot_ne (Or.inl (hw _ (List.mem_of_getElem? (i := 14) rfl))) (Or.inl (hw _ (List.mem_of_getElem? (i := 24) rfl))) (by decide) (t := .long) (t' := (.array .long)) (by decide) (by decide)))).other W318 (Or.inl ne_a1_b306))
    obtain ⟨T323, X323, e323, st323⟩ := getF X318 hx hZ hown (host := "") (Or.inl (hw _ (List.mem_of_getElem? (i := 13) rfl))) Via.refl e318 f322 (g := (mkF m 41 #[.val (.ref a1), .val (.int i1), .val (.long v1), .second, .val (.long (vals i)), .second] [(.ref a1), (.long v1)])) rfl rfl (hb hby d5_41)
    have S324 : ∀ t, Steps p.tables e below (T323.setTop (mkF m 45 #[.val (.ref a1), .val (.int i1), .val (.long v1), .second, .val (.long (vals i)), .second] [(.int (lcmpW v1 lo1))])) t → Steps p.tables e below (T323.setTop (mkF m 44 #[.val (.ref a1), .val (.int i1), .val (.long v1), .second, .val (.long (vals i)), .second] [(.long lo1), (.long v1)])) t := by
      intro t kt
      show Steps p.tables e below (T323.setTop (mkF m 44 #[.val (.ref a1), .val (.int i1), .val (.long v1), .second, .val (.long (vals i)), .second] [(.long lo1), (.long v1)])) _
      refine XS.lcmp X323.here hx rfl (hb hby d5_44) rfl ?_
      exact kt
    by_cases hc325 : v1 < lo1
    · have S326 : ∀ t, Steps p.tables e below (T323.setTop (mkF m 50 #[.val (.ref a1), .val (.int i1), .val (.long v1), .second, .val (.long (vals i)), .second] [(.long v1), (.ref a1)])) t → Steps p.tables e below (T323.setTop (mkF m 45 #[.val (.ref a1), .val (.int i1), .val (.long v1), .second, .val (.long (vals i)), .second] [(.int (lcmpW v1 lo1))])) t := by
        intro t kt
        show Steps p.tables e below (T323.setTop (mkF m 45 #[.val (.ref a1), .val (.int i1), .val (.long v1), .second, .val (.long (vals i)), .second] [(.int (lcmpW v1 lo1))])) _
        refine XS.ifNo X323.here hx rfl (hb hby d5_45) rfl ((if0 _ _).trans (tlt ((lw_lt v1 lo1).mpr hc325)).2.1) ?_
        show Steps p.tables e below (T323.setTop (mkF m 48 #[.val (.ref a1), .val (.int i1), .val (.long v1), .second, .val (.long (vals i)), .second] [])) _
        refine XS.aloadN X323.here hx rfl (hb hby d5_48) rfl rfl ?_
        show Steps p.tables e below (T323.setTop (mkF m 49 #[.val (.ref a1), .val (.int i1), .val (.long v1), .second, .val (.long (vals i)), .second] [(.ref a1)])) _
        refine XS.lloadN X323.here hx rfl (hb hby d5_49) rfl ?_
        exact kt
      have f327 := ((f310.wr W311).wr W318)
      obtain ⟨T328, h328, X328, e328, W328, st328⟩ := putF X323 hx hZ hown (host := "") (Or.inl (hw _ (List.mem_of_getElem? (i := 13) rfl))) Via.refl e323 f322 f327 (Or.inl (hw _ (List.mem_of_getElem? (i := 14) rfl))) (hw _ (List.mem_of_getElem? (i := 1) rfl)) (ty := .long) (by decide) rfl rfl (g := (mkF m 50 #[.val (.ref a1), .val (.int i1), .val (.long v1), .second, .val (.long (vals i)), .second] [(.long v1), (.ref a1)])) rfl rfl (hb hby d5_50)
      have z329 : n0 ≤ h328.size := Nat.le_trans z319 (Keep.of_wr W328).1
      have N330 := Fr.snoc X328 N320 g_a1
      have Fw328 := f322.same W328
      have S331 : ∀ t, Steps p.tables e below (T328.setTop (mkF m 55 #[.val (.ref a1), .val (.int i1), .val (.long v1), .second, .val (.long (vals i)), .second] [(.int (1 : Int32)), (.ref a1)])) t → Steps p.tables e below (T328.setTop (mkF m 53 #[.val (.ref a1), .val (.int i1), .val (.long v1), .second, .val (.long (vals i)), .second] [])) t := by
        intro t kt
        show Steps p.tables e below (T328.setTop (mkF m 53 #[.val (.ref a1), .val (.int i1), .val (.long v1), .second, .val (.long (vals i)), .second] [])) _
        refine XS.aloadN X328.here hx rfl (hb hby d5_53) rfl rfl ?_
        show Steps p.tables e below (T328.setTop (mkF m 54 #[.val (.ref a1), .val (.int i1), .val (.long v1), .second, .val (.long (vals i)), .second] [(.ref a1)])) _
        refine XS.iconst X328.here hx rfl (hb hby d5_54) ?_
        exact kt
      have f332 := ((((F294.ext E306).other W311 (Or.inr (slot_ne (Or.inl (hw _ (List.mem_of_getElem? (i := 16) rfl))) (Or.inl (hw _ (List.mem_of_getElem? (i := 24) rfl))) (by decide) (t := .int) (t' := (.array .long)) (by decide) (by decide)))).other W318 (Or.inl ne_a1_b306)).other W328 (Or.inr (slot_ne (Or.inl (hw _ (List.mem_of_getElem? (i := 16) rfl))) (Or.inl (hw _ (List.mem_of_getElem? (i := 14) rfl))) (by decide) (t := .int) (t' := .long) (by decide) (by decide))))
      have f333 := (f327.wr W328)
      obtain ⟨T334, h334, X334, e334, W334, st334⟩ := putF X328 hx hZ hown (host := "") (Or.inl (hw _ (List.mem_of_getElem? (i := 15) rfl))) Via.refl e328 f332 f333 (Or.inl (hw _ (List.mem_of_getElem? (i := 16) rfl))) (hw _ (List.mem_of_getElem? (i := 1) rfl)) (ty := .int) (by decide) rfl rfl (g := (mkF m 55 #[.val (.ref a1), .val (.int i1), .val (.long v1), .second, .val (.long (vals i)), .second] [(.int (1 : Int32)), (.ref a1)])) rfl rfl (hb hby d5_55)
      have z335 : n0 ≤ h334.size := Nat.le_trans z329 (Keep.of_wr W334).1
      have N336 := Fr.snoc X334 N330 g_a1
      have Fw334 := f332.same W334
      have S337 : ∀ t, Steps p.tables e below (T334.setTop (mkF m 111 #[.val (.ref a1), .val (.int i1), .val (.long v1), .second, .val (.long (vals i)), .second] [])) t → Steps p.tables e below (T334.setTop (mkF m 58 #[.val (.ref a1), .val (.int i1), .val (.long v1), .second, .val (.long (vals i)), .second] [])) t := by
        intro t kt
        show Steps p.tables e below (T334.setTop (mkF m 58 #[.val (.ref a1), .val (.int i1), .val (.long v1), .second, .val (.long (vals i)), .second] [])) _
        refine XS.goto X334.here hx rfl (pc0 := 58) (pc' := 111) rfl (hb hby d5_58) (by decide) (by decide) ?_
        exact kt
      have C338 : ∀ t, Steps p.tables e below (T334.setTop (mkF m 111 #[.val (.ref a1), .val (.int i1), .val (.long v1), .second, .val (.long (vals i)), .second] [])) t → Steps p.tables e below (s₁.setTop (mkF m 0 #[.val (.ref a1), .val (.int i1), .val (.long v1), .second, .unset, .unset] [])) t := (fun t k => (S296 t (st297.trans (S298 t (S302 t (st303 t (S304 t (st305 t (st306 t (st311 t (S314 t (st315 t (S316 t (st318 t (S321 t (st323 t (S324 t (S326 t (st328 t (S331 t (st334 t (S337 t k))))))))))))))))))))))
      obtain ⟨fs, hr, hrun, hended, hW, hsame⟩ := X334.leave (v := none) (fun _ => rfl)
      refine ⟨_, _, pre0 _ (C338 _ ?_), hrun, hended, _, _, rfl, ?_, ⟨_, rfl⟩, hW, hsame.mono (by decide) (by decide)⟩
      · exact X334.returnOut hx Bd.returns (hb hby d5_111) hr
      · show Q_rm_set0 Z a1 i1 v1 i s1 lo1 al1 vals h0 n0 _ T334.heap _
        rw [e334]
        have f339 := (f333.wr W334)
        have f340 := (((((F291.ext E306).other W311 (Or.inr (slot_ne (Or.inr (hw _ (List.mem_of_getElem? (i := 10) rfl))) (Or.inl (hw _ (List.mem_of_getElem? (i := 24) rfl))) (by decide) (t := .int) (t' := (.array .long)) (by decide) (by decide)))).other W318 (Or.inl ne_a1_b306)).other W328 (Or.inr (slot_ne (Or.inr (hw _ (List.mem_of_getElem? (i := 10) rfl))) (Or.inl (hw _ (List.mem_of_getElem? (i := 14) rfl))) (by decide) (t := .int) (t' := .long) (by decide) (by decide)))).other W334 (Or.inr (slot_ne (Or.inr (hw _ (List.mem_of_getElem? (i := 10) rfl))) (Or.inl (hw _ (List.mem_of_getElem? (i := 16) rfl))) (by decide) (t := .int) (t' := .int) (by decide) (by decide))))
        have f341 := (((((F292.ext E306).other W311 (Or.inr (slot_ne (Or.inr (hw _ (List.mem_of_getElem? (i := 12) rfl))) (Or.inl (hw _ (List.mem_of_getElem? (i := 24) rfl))) (by decide) (t := .int) (t' := (.array .long)) (by decide) (by decide)))).other W318 (Or.inl ne_a1_b306)).other W328 (Or.inr (slot_ne (Or.inr (hw _ (List.mem_of_getElem? (i := 12) rfl))) (Or.inl (hw _ (List.mem_of_getElem? (i := 14) rfl))) (by decide) (t := .int) (t' := .long) (by decide) (by decide)))).other W334 (Or.inr (slot_ne (Or.inr (hw _ (List.mem_of_getElem? (i := 12) rfl))) (Or.inl (hw _ (List.mem_of_getElem? (i := 16) rfl))) (by decide) (t := .int) (t' := .int) (by decide) (by decide))))
        have f342 := (Fw328.other W334 (Or.inr (slot_ne (Or.inl (hw _ (List.mem_of_getElem? (i := 14) rfl))) (Or.inl (hw _ (List.mem_of_getElem? (i := 16) rfl))) (by decide) (t := .long) (t' := .int) (by decide) (by decide))))
        have f343 := (((Fw311.other W318 (Or.inl ne_a1_b306)).other W328 (Or.inr (slot_ne (Or.inl (hw _ (List.mem_of_getElem? (i := 24) rfl))) (Or.inl (hw _ (List.mem_of_getElem? (i := 14) rfl))) (by decide) (t := (.array .long)) (t' := .long) (by decide) (by decide)))).other W334 (Or.inr (slot_ne (Or.inl (hw _ (List.mem_of_getElem? (i := 24) rfl))) (Or.inl (hw _ (List.mem_of_getElem? (i := 16) rfl))) (by decide) (t := (.array .long)) (t' := .int) (by decide) (by decide))))
        have f344 := ((V318'.other W328 (Ne.symm ne_a1_b306)).other W334 (Ne.symm ne_a1_b306))
        exact ⟨rfl, N336, z335, g_a1, f339, f340, f341, ⟨_, _, f342, Fw334⟩, Or.inr ⟨b306, g_b306, ne_a1_b306, f343, f344⟩⟩
    · have S345 : ∀ t, Steps p.tables e below (T323.setTop (mkF m 63 #[.val (.ref a1), .val (.int i1), .val (.long v1), .second, .val (.long (vals i)), .second] [(.ref a1), (.long v1)])) t → Steps p.tables e below (T323.setTop (mkF m 45 #[.val (.ref a1), .val (.int i1), .val (.long v1), .second, .val (.long (vals i)), .second] [(.int (lcmpW v1 lo1))])) t := by
        intro t kt
        show Steps p.tables e below (T323.setTop (mkF m 45 #[.val (.ref a1), .val (.int i1), .val (.long v1), .second, .val (.long (vals i)), .second] [(.int (lcmpW v1 lo1))])) _
        refine XS.ifYes X323.here hx rfl (pc0 := 45) (pc' := 61) rfl (hb hby d5_45) rfl ((if0 _ _).trans (flt (fun q => hc325 ((lw_lt v1 lo1).mp q))).2.1) (by decide) (by decide) ?_
        show Steps p.tables e below (T323.setTop (mkF m 61 #[.val (.ref a1), .val (.int i1), .val (.long v1), .second, .val (.long (vals i)), .second] [])) _
        refine XS.lloadN X323.here hx rfl (hb hby d5_61) rfl ?_
        show Steps p.tables e below (T323.setTop (mkF m 62 #[.val (.ref a1), .val (.int i1), .val (.long v1), .second, .val (.long (vals i)), .second] [(.long v1)])) _
        refine XS.aloadN X323.here hx rfl (hb hby d5_62) rfl rfl ?_
        exact kt
      obtain ⟨T346, X346, e346, st346⟩ := getF X323 hx hZ hown (host := "") (Or.inl (hw _ (List.mem_of_getElem? (i := 13) rfl))) Via.refl e323 f322 (g := (mkF m 63 #[.val (.ref a1), .val (.int i1), .val (.long v1), .second, .val (.long (vals i)), .second] [(.ref a1), (.long v1)])) rfl rfl (hb hby d5_63)
      have S347 : ∀ t, Steps p.tables e below (T346.setTop (mkF m 67 #[.val (.ref a1), .val (.int i1), .val (.long v1), .second, .val (.long (vals i)), .second] [(.int (lcmpW v1 lo1))])) t → Steps p.tables e below (T346.setTop (mkF m 66 #[.val (.ref a1), .val (.int i1), .val (.long v1), .second, .val (.long (vals i)), .second] [(.long lo1), (.long v1)])) t := by
        intro t kt
        show Steps p.tables e below (T346.setTop (mkF m 66 #[.val (.ref a1), .val (.int i1), .val (.long v1), .second, .val (.long (vals i)), .second] [(.long lo1), (.long v1)])) _
        refine XS.lcmp X346.here hx rfl (hb hby d5_66) rfl ?_
        exact kt
      by_cases hc348 : v1 = lo1
      · have S349 : ∀ t, Steps p.tables e below (T346.setTop (mkF m 72 #[.val (.ref a1), .val (.int i1), .val (.long v1), .second, .val (.long (vals i)), .second] [(.ref a1), (.ref a1)])) t → Steps p.tables e below (T346.setTop (mkF m 67 #[.val (.ref a1), .val (.int i1), .val (.long v1), .second, .val (.long (vals i)), .second] [(.int (lcmpW v1 lo1))])) t := by
          intro t kt
          show Steps p.tables e below (T346.setTop (mkF m 67 #[.val (.ref a1), .val (.int i1), .val (.long v1), .second, .val (.long (vals i)), .second] [(.int (lcmpW v1 lo1))])) _
          refine XS.ifNo X346.here hx rfl (hb hby d5_67) rfl ((if0 _ _).trans (teq ((lw_eq v1 lo1).mpr hc348)).2) ?_
          show Steps p.tables e below (T346.setTop (mkF m 70 #[.val (.ref a1), .val (.int i1), .val (.long v1), .second, .val (.long (vals i)), .second] [])) _
          refine XS.aloadN X346.here hx rfl (hb hby d5_70) rfl rfl ?_
          show Steps p.tables e below (T346.setTop (mkF m 71 #[.val (.ref a1), .val (.int i1), .val (.long v1), .second, .val (.long (vals i)), .second] [(.ref a1)])) _
          refine XS.dup X346.here hx rfl (hb hby d5_71) rfl rfl ?_
          exact kt
        have f350 := (((F294.ext E306).other W311 (Or.inr (slot_ne (Or.inl (hw _ (List.mem_of_getElem? (i := 16) rfl))) (Or.inl (hw _ (List.mem_of_getElem? (i := 24) rfl))) (by decide) (t := .int) (t' := (.array .long)) (by decide) (by decide)))).other W318 (Or.inl ne_a1_b306))
        obtain ⟨T351, X351, e351, st351⟩ := getF X346 hx hZ hown (host := "") (Or.inl (hw _ (List.mem_of_getElem? (i := 15) rfl))) Via.refl e346 f350 (g := (mkF m 72 #[.val (.ref a1), .val (.int i1), .val (.long v1), .second, .val (.long (vals i)), .second] [(.ref a1), (.ref a1)])) rfl rfl (hb hby d5_72)
        have S352 : ∀ t, Steps p.tables e below (T351.setTop (mkF m 77 #[.val (.ref a1), .val (.int i1), .val (.long v1), .second, .val (.long (vals i)), .second] [(.int (al1 + (1 : Int32))), (.ref a1)])) t → Steps p.tables e below (T351.setTop (mkF m 75 #[.val (.ref a1), .val (.int i1), .val (.long v1), .second, .val (.long (vals i)), .second] [(.int al1), (.ref a1)])) t := by
          intro t kt
          show Steps p.tables e below (T351.setTop (mkF m 75 #[.val (.ref a1), .val (.int i1), .val (.long v1), .second, .val (.long (vals i)), .second] [(.int al1), (.ref a1)])) _
          refine XS.iconst X351.here hx rfl (hb hby d5_75) ?_
          show Steps p.tables e below (T351.setTop (mkF m 76 #[.val (.ref a1), .val (.int i1), .val (.long v1), .second, .val (.long (vals i)), .second] [(.int (1 : Int32)), (.int al1), (.ref a1)])) _
          refine XS.iadd X351.here hx rfl (hb hby d5_76) rfl ?_
          exact kt
        have f353 := ((f310.wr W311).wr W318)
        obtain ⟨T354, h354, X354, e354, W354, st354⟩ := putF X351 hx hZ hown (host := "") (Or.inl (hw _ (List.mem_of_getElem? (i := 15) rfl))) Via.refl e351 f350 f353 (Or.inl (hw _ (List.mem_of_getElem? (i := 16) rfl))) (hw _ (List.mem_of_getElem? (i := 1) rfl)) (ty := .int) (by decide) rfl rfl (g := (mkF m 77 #[.val (.ref a1), .val (.int i1), .val (.long v1), .second, .val (.long (vals i)), .second] [(.int (al1 + (1 : Int32))), (.ref a1)])) rfl rfl (hb hby d5_77)
        have z355 : n0 ≤ h354.size := Nat.le_trans z319 (Keep.of_wr W354).1
        have N356 := Fr.snoc X354 N320 g_a1
        have Fw354 := f350.same W354
        have S357 : ∀ t, Steps p.tables e below (T354.setTop (mkF m 111 #[.val (.ref a1), .val (.int i1), .val (.long v1), .second, .val (.long (vals i)), .second] [])) t → Steps p.tables e below (T354.setTop (mkF m 80 #[.val (.ref a1), .val (.int i1), .val (.long v1), .second, .val (.long (vals i)), .second] [])) t := by
          intro t kt
          show Steps p.tables e below (T354.setTop (mkF m 80 #[.val (.ref a1), .val (.int i1), .val (.long v1), .second, .val (.long (vals i)), .second] [])) _
          refine XS.goto X354.here hx rfl (pc0 := 80) (pc' := 111) rfl (hb hby d5_80) (by decide) (by decide) ?_
          exact kt
        have C358 : ∀ t, Steps p.tables e below (T354.setTop (mkF m 111 #[.val (.ref a1), .val (.int i1), .val (.long v1), .second, .val (.long (vals i)), .second] [])) t → Steps p.tables e below (s₁.setTop (mkF m 0 #[.val (.ref a1), .val (.int i1), .val (.long v1), .second, .unset, .unset] [])) t := (fun t k => (S296 t (st297.trans (S298 t (S302 t (st303 t (S304 t (st305 t (st306 t (st311 t (S314 t (st315 t (S316 t (st318 t (S321 t (st323 t (S324 t (S345 t (st346 t (S347 t (S349 t (st351 t (S352 t (st354 t (S357 t k)))))))))))))))))))))))))
        obtain ⟨fs, hr, hrun, hended, hW, hsame⟩ := X354.leave (v := none) (fun _ => rfl)
        refine ⟨_, _, pre0 _ (C358 _ ?_), hrun, hended, _, _, rfl, ?_, ⟨_, rfl⟩, hW, hsame.mono (by decide) (by decide)⟩
        · exact X354.returnOut hx Bd.returns (hb hby d5_111) hr
        · show Q_rm_set0 Z a1 i1 v1 i s1 lo1 al1 vals h0 n0 _ T354.heap _
          rw [e354]
          have f359 := (f353.wr W354)
          have f360 := ((((F291.ext E306).other W311 (Or.inr (slot_ne (Or.inr (hw _ (List.mem_of_getElem? (i := 10) rfl))) (Or.inl (hw _ (List.mem_of_getElem? (i := 24) rfl))) (by decide) (t := .int) (t' := (.array .long)) (by decide) (by decide)))).other W318 (Or.inl ne_a1_b306)).other W354 (Or.inr (slot_ne (Or.inr (hw _ (List.mem_of_getElem? (i := 10) rfl))) (Or.inl (hw _ (List.mem_of_getElem? (i := 16) rfl))) (by decide) (t := .int) (t' := .int) (by decide) (by decide))))
          have f361 := ((((F292.ext E306).other W311 (Or.inr (slot_ne (Or.inr (hw _ (List.mem_of_getElem? (i := 12) rfl))) (Or.inl (hw _ (List.mem_of_getElem? (i := 24) rfl))) (by decide) (t := .int) (t' := (.array .long)) (by decide) (by decide)))).other W318 (Or.inl ne_a1_b306)).other W354 (Or.inr (slot_ne (Or.inr (hw _ (List.mem_of_getElem? (i := 12) rfl))) (Or.inl (hw _ (List.mem_of_getElem? (i := 16) rfl))) (by decide) (t := .int) (t' := .int) (by decide) (by decide))))
          have f362 := (f322.other W354 (Or.inr (slot_ne (Or.inl (hw _ (List.mem_of_getElem? (i := 14) rfl))) (Or.inl (hw _ (List.mem_of_getElem? (i := 16) rfl))) (by decide) (t := .long) (t' := .int) (by decide) (by decide))))
          have f363 := ((Fw311.other W318 (Or.inl ne_a1_b306)).other W354 (Or.inr (slot_ne (Or.inl (hw _ (List.mem_of_getElem? (i := 24) rfl))) (Or.inl (hw _ (List.mem_of_getElem? (i := 16) rfl))) (by decide) (t := (.array .long)) (t' := .int) (by decide) (by decide))))
          have f364 := (V318'.other W354 (Ne.symm ne_a1_b306))
          exact ⟨rfl, N356, z355, g_a1, f359, f360, f361, ⟨_, _, f362, Fw354⟩, Or.inr ⟨b306, g_b306, ne_a1_b306, f363, f364⟩⟩
      · have S365 : ∀ t, Steps p.tables e below (T346.setTop (mkF m 86 #[.val (.ref a1), .val (.int i1), .val (.long v1), .second, .val (.long (vals i)), .second] [(.ref a1), (.long (vals i))])) t → Steps p.tables e below (T346.setTop (mkF m 67 #[.val (.ref a1), .val (.int i1), .val (.long v1), .second, .val (.long (vals i)), .second] [(.int (lcmpW v1 lo1))])) t := by
          intro t kt
          show Steps p.tables e below (T346.setTop (mkF m 67 #[.val (.ref a1), .val (.int i1), .val (.long v1), .second, .val (.long (vals i)), .second] [(.int (lcmpW v1 lo1))])) _
          refine XS.ifYes X346.here hx rfl (pc0 := 67) (pc' := 83) rfl (hb hby d5_67) rfl ((if0 _ _).trans (feq (fun q => hc348 ((lw_eq v1 lo1).mp q))).2) (by decide) (by decide) ?_
          show Steps p.tables e below (T346.setTop (mkF m 83 #[.val (.ref a1), .val (.int i1), .val (.long v1), .second, .val (.long (vals i)), .second] [])) _
          refine XS.lload X346.here hx rfl (hb hby d5_83) rfl ?_
          show Steps p.tables e below (T346.setTop (mkF m 85 #[.val (.ref a1), .val (.int i1), .val (.long v1), .second, .val (.long (vals i)), .second] [(.long (vals i))])) _
          refine XS.aloadN X346.here hx rfl (hb hby d5_85) rfl rfl ?_
          exact kt
        obtain ⟨T366, X366, e366, st366⟩ := getF X346 hx hZ hown (host := "") (Or.inl (hw _ (List.mem_of_getElem? (i := 13) rfl))) Via.refl e346 f322 (g := (mkF m 86 #[.val (.ref a1), .val (.int i1), .val (.long v1), .second, .val (.long (vals i)), .second] [(.ref a1), (.long (vals i))])) rfl rfl (hb hby d5_86)
        have S367 : ∀ t, Steps p.tables e below (T366.setTop (mkF m 90 #[.val (.ref a1), .val (.int i1), .val (.long v1), .second, .val (.long (vals i)), .second] [(.int (lcmpW (vals i) lo1))])) t → Steps p.tables e below (T366.setTop (mkF m 89 #[.val (.ref a1), .val (.int i1), .val (.long v1), .second, .val (.long (vals i)), .second] [(.long lo1), (.long (vals i))])) t := by
          intro t kt
          show Steps p.tables e below (T366.setTop (mkF m 89 #[.val (.ref a1), .val (.int i1), .val (.long v1), .second, .val (.long (vals i)), .second] [(.long lo1), (.long (vals i))])) _
          refine XS.lcmp X366.here hx rfl (hb hby d5_89) rfl ?_
          exact kt
        by_cases hc368 : (vals i) = lo1
        · have S369 : ∀ t, Steps p.tables e below (T366.setTop (mkF m 95 #[.val (.ref a1), .val (.int i1), .val (.long v1), .second, .val (.long (vals i)), .second] [(.ref a1), (.ref a1)])) t → Steps p.tables e below (T366.setTop (mkF m 90 #[.val (.ref a1), .val (.int i1), .val (.long v1), .second, .val (.long (vals i)), .second] [(.int (lcmpW (vals i) lo1))])) t := by
            intro t kt
            show Steps p.tables e below (T366.setTop (mkF m 90 #[.val (.ref a1), .val (.int i1), .val (.long v1), .second, .val (.long (vals i)), .second] [(.int (lcmpW (vals i) lo1))])) _
            refine XS.ifNo X366.here hx rfl (hb hby d5_90) rfl ((if0 _ _).trans (teq ((lw_eq (vals i) lo1).mpr hc368)).2) ?_
            show Steps p.tables e below (T366.setTop (mkF m 93 #[.val (.ref a1), .val (.int i1), .val (.long v1), .second, .val (.long (vals i)), .second] [])) _
            refine XS.aloadN X366.here hx rfl (hb hby d5_93) rfl rfl ?_
            show Steps p.tables e below (T366.setTop (mkF m 94 #[.val (.ref a1), .val (.int i1), .val (.long v1), .second, .val (.long (vals i)), .second] [(.ref a1)])) _
            refine XS.dup X366.here hx rfl (hb hby d5_94) rfl rfl ?_
            exact kt
          have f370 := (((F294.ext E306).other W311 (Or.inr (slot_ne (Or.inl (hw _ (List.mem_of_getElem? (i := 16) rfl))) (Or.inl (hw _ (List.mem_of_getElem? (i := 24) rfl))) (by decide) (t := .int) (t' := (.array .long)) (by decide) (by decide)))).other W318 (Or.inl ne_a1_b306))
          obtain ⟨T371, X371, e371, st371⟩ := getF X366 hx hZ hown (host := "") (Or.inl (hw _ (List.mem_of_getElem? (i := 15) rfl))) Via.refl e366 f370 (g := (mkF m 95 #[.val (.ref a1), .val (.int i1), .val (.long v1), .second, .val (.long (vals i)), .second] [(.ref a1), (.ref a1)])) rfl rfl (hb hby d5_95)
          have S372 : ∀ t, Steps p.tables e below (T371.setTop (mkF m 101 #[.val (.ref a1), .val (.int i1), .val (.long v1), .second, .val (.long (vals i)), .second] [(.int (al1 - (1 : Int32))), (.ref a1), (.int (al1 - (1 : Int32)))])) t → Steps p.tables e below (T371.setTop (mkF m 98 #[.val (.ref a1), .val (.int i1), .val (.long v1), .second, .val (.long (vals i)), .second] [(.int al1), (.ref a1)])) t := by
            intro t kt
            show Steps p.tables e below (T371.setTop (mkF m 98 #[.val (.ref a1), .val (.int i1), .val (.long v1), .second, .val (.long (vals i)), .second] [(.int al1), (.ref a1)])) _
            refine XS.iconst X371.here hx rfl (hb hby d5_98) ?_
            show Steps p.tables e below (T371.setTop (mkF m 99 #[.val (.ref a1), .val (.int i1), .val (.long v1), .second, .val (.long (vals i)), .second] [(.int (1 : Int32)), (.int al1), (.ref a1)])) _
            refine XS.isub X371.here hx rfl (hb hby d5_99) rfl ?_
            show Steps p.tables e below (T371.setTop (mkF m 100 #[.val (.ref a1), .val (.int i1), .val (.long v1), .second, .val (.long (vals i)), .second] [(.int (al1 - (1 : Int32))), (.ref a1)])) _
            refine XS.dupX1 X371.here hx rfl (hb hby d5_100) rfl rfl rfl ?_
            exact kt
          have f373 := ((f310.wr W311).wr W318)
          obtain ⟨T374, h374, X374, e374, W374, st374⟩ := putF X371 hx hZ hown (host := "") (Or.inl (hw _ (List.mem_of_getElem? (i := 15) rfl))) Via.refl e371 f370 f373 (Or.inl (hw _ (List.mem_of_getElem? (i := 16) rfl))) (hw _ (List.mem_of_getElem? (i := 1) rfl)) (ty := .int) (by decide) rfl rfl (g := (mkF m 101 #[.val (.ref a1), .val (.int i1), .val (.long v1), .second, .val (.long (vals i)), .second] [(.int (al1 - (1 : Int32))), (.ref a1), (.int (al1 - (1 : Int32)))])) rfl rfl (hb hby d5_101)
          have z375 : n0 ≤ h374.size := Nat.le_trans z319 (Keep.of_wr W374).1
          have N376 := Fr.snoc X374 N320 g_a1
          have Fw374 := f370.same W374
          by_cases hc377 : (al1 - (1 : Int32)) = (0 : Int32)
          · have f380 := (V318'.other W374 (Ne.symm ne_a1_b306))
            have f386 := (f373.wr W374)
            have f387 := ((((F291.ext E306).other W311 (Or.inr (slot_ne (Or.inr (hw _ (List.mem_of_getElem? (i := 10) rfl))) (Or.inl (hw _ (List.mem_of_getElem? (i := 24) rfl))) (by decide) (t := .int) (t' := (.array .long)) (by decide) (by decide)))).other W318 (Or.inl ne_a1_b306)).other W374 (Or.inr (slot_ne (Or.inr (hw _ (List.mem_of_getElem? (i := 10) rfl))) (Or.inl (hw _ (List.mem_of_getElem? (i := 16) rfl))) (by decide) (t := .int) (t' := .int) (by decide) (by decide))))
            have f388 := ((((F292.ext E306).other W311 (Or.inr (slot_ne (Or.inr (hw _ (List.mem_of_getElem? (i := 12) rfl))) (Or.inl (hw _ (List.mem_of_getElem? (i := 24) rfl))) (by decide) (t := .int) (t' := (.array .long)) (by decide) (by decide)))).other W318 (Or.inl ne_a1_b306)).other W374 (Or.inr (slot_ne (Or.inr (hw _ (List.mem_of_getElem? (i := 12) rfl))) (Or.inl (hw _ (List.mem_of_getElem? (i := 16) rfl))) (by decide) (t := .int) (t' := .int) (by decide) (by decide))))
            have f389 := (f322.other W374 (Or.inr (slot_ne (Or.inl (hw _ (List.mem_of_getElem? (i := 14) rfl))) (Or.inl (hw _ (List.mem_of_getElem? (i := 16) rfl))) (by decide) (t := .long) (t' := .int) (by decide) (by decide))))
            have f390 := ((Fw311.other W318 (Or.inl ne_a1_b306)).other W374 (Or.inr (slot_ne (Or.inl (hw _ (List.mem_of_getElem? (i := 24) rfl))) (Or.inl (hw _ (List.mem_of_getElem? (i := 16) rfl))) (by decide) (t := (.array .long)) (t' := .int) (by decide) (by decide))))
            have S391 : ∀ t, Steps p.tables e below (T374.setTop (mkF m 108 #[.val (.ref a1), .val (.int i1), .val (.long v1), .second, .val (.long (vals i)), .second] [(.ref a1)])) t → Steps p.tables e below (T374.setTop (mkF m 104 #[.val (.ref a1), .val (.int i1), .val (.long v1), .second, .val (.long (vals i)), .second] [(.int (al1 - (1 : Int32)))])) t := by
              intro t kt
              show Steps p.tables e below (T374.setTop (mkF m 104 #[.val (.ref a1), .val (.int i1), .val (.long v1), .second, .val (.long (vals i)), .second] [(.int (al1 - (1 : Int32)))])) _
              refine XS.ifNo X374.here hx rfl (hb hby d5_104) rfl ((if0 _ _).trans (teq hc377).2) ?_
              show Steps p.tables e below (T374.setTop (mkF m 107 #[.val (.ref a1), .val (.int i1), .val (.long v1), .second, .val (.long (vals i)), .second] [])) _
              refine XS.aloadN X374.here hx rfl (hb hby d5_107) rfl rfl ?_
              exact kt
            obtain ⟨cq392, q392, q392'⟩ := f386.cell
            obtain ⟨_, _, ⟨T392, L392, k392, n392⟩, -, X392, ⟨Lc392, hQ392, l392, y392, z392⟩, st392⟩ := X374.privateBack hx (y := (⟨"com/example/totality/totality/core/Windows", "count", "()V"⟩ : MethodName)) hown (mvT hZ (hw _ (List.mem_of_getElem? (i := 39) rfl))) (mvT hZ (hw _ (List.mem_of_getElem? (i := 40) rfl))) (own_selP hZ (hw _ (List.mem_of_getElem? (i := 1) rfl)) (hw _ (List.mem_of_getElem? (i := 41) rfl)) (hw _ (List.mem_of_getElem? (i := 40) rfl)) (by decide)) (Cond.privateMethod_at (mvP hZ (hw _ (List.mem_of_getElem? (i := 41) rfl)) (args := #[]))) (mvT hZ (hw _ (List.mem_of_getElem? (i := 42) rfl))) (by decide) (backOf (W := 0) (rm7 l Z a0 hw [] a1 b306 s1 lo1 (al1 - (1 : Int32)) (own_put vals i v1) h374 n0 z375 f386 f387 f388 f389 Fw374 f390 f380 g_a1 ne_a1_b306) hZ (hw _ (List.mem_of_getElem? (i := 42) rfl)) (hw _ (List.mem_of_getElem? (i := 2) rfl)) (by decide) (by decide)) (g := (mkF m 108 #[.val (.ref a1), .val (.int i1), .val (.long v1), .second, .val (.long (vals i)), .second] [(.ref a1)])) rfl (by rw [hml]; rfl) (Steps.refl _) (a := a1) (by rw [e374]; exact q392) q392' (argsL := []) (rest := []) (lenOf pd_1 rfl) rfl (by show 2 * 0 + _ ≤ _; exact Nat.le_of_eq rfl) (hb hby d5_108) (fun _ _ => ⟨rfl, e374, (by decide : 1 + 0 ≤ _), (by decide : 3 + 0 ≤ _)⟩)
            dsimp only [Pt.U, Pt.locs, Pt.cells, Pt.slots] at X392 l392 y392 z392 st392 hQ392
            subst l392 y392 z392
            obtain ⟨h392, e392⟩ : ∃ z, T392.heap = z := ⟨_, rfl⟩
            rw [e392] at hQ392
            obtain ⟨rfl, N392q, K392q, F381, F382, F383, lo378, al379, F384, F385⟩ := hQ392
            have z393 : n0 ≤ h392.size := Nat.le_trans z375 K392q.1
            have N392 := Fr.app N376 N392q
            have C394 : ∀ t, Steps p.tables e below (T392.setTop (mkF m 111 #[.val (.ref a1), .val (.int i1), .val (.long v1), .second, .val (.long (vals i)), .second] [])) t → Steps p.tables e below (s₁.setTop (mkF m 0 #[.val (.ref a1), .val (.int i1), .val (.long v1), .second, .unset, .unset] [])) t := (fun t k => (S296 t (st297.trans (S298 t (S302 t (st303 t (S304 t (st305 t (st306 t (st311 t (S314 t (st315 t (S316 t (st318 t (S321 t (st323 t (S324 t (S345 t (st346 t (S347 t (S365 t (st366 t (S367 t (S369 t (st371 t (S372 t (st374 t (S391 t (st392.trans k)))))))))))))))))))))))))))))
            obtain ⟨fs, hr, hrun, hended, hW, hsame⟩ := X392.leave (v := none) (fun _ => rfl)
            refine ⟨_, _, pre0 _ (C394 _ ?_), hrun, hended, _, _, rfl, ?_, ⟨_, rfl⟩, hW, hsame.mono (by decide) (by decide)⟩
            · exact X392.returnOut hx Bd.returns (hb hby d5_111) hr
            · show Q_rm_set0 Z a1 i1 v1 i s1 lo1 al1 vals h0 n0 _ T392.heap _
              rw [e392]
              have f395 := (f386.keep K392q)
              have f396 := (f380.keep K392q (ninS (Ne.symm ne_a1_b306) nin0))
              exact ⟨rfl, N392, z393, g_a1, f395, F381, F382, ⟨_, _, F384, F385⟩, Or.inr ⟨b306, g_b306, ne_a1_b306, F383, f396⟩⟩
          · have S397 : ∀ t, Steps p.tables e below (T374.setTop (mkF m 111 #[.val (.ref a1), .val (.int i1), .val (.long v1), .second, .val (.long (vals i)), .second] [])) t → Steps p.tables e below (T374.setTop (mkF m 104 #[.val (.ref a1), .val (.int i1), .val (.long v1), .second, .val (.long (vals i)), .second] [(.int (al1 - (1 : Int32)))])) t := by
              intro t kt
              show Steps p.tables e below (T374.setTop (mkF m 104 #[.val (.ref a1), .val (.int i1), .val (.long v1), .second, .val (.long (vals i)), .second] [(.int (al1 - (1 : Int32)))])) _
              refine XS.ifYes X374.here hx rfl (pc0 := 104) (pc' := 111) rfl (hb hby d5_104) rfl ((if0 _ _).trans (feq hc377).2) (by decide) (by decide) ?_
              exact kt
            have C398 : ∀ t, Steps p.tables e below (T374.setTop (mkF m 111 #[.val (.ref a1), .val (.int i1), .val (.long v1), .second, .val (.long (vals i)), .second] [])) t → Steps p.tables e below (s₁.setTop (mkF m 0 #[.val (.ref a1), .val (.int i1), .val (.long v1), .second, .unset, .unset] [])) t := (fun t k => (S296 t (st297.trans (S298 t (S302 t (st303 t (S304 t (st305 t (st306 t (st311 t (S314 t (st315 t (S316 t (st318 t (S321 t (st323 t (S324 t (S345 t (st346 t (S347 t (S365 t (st366 t (S367 t (S369 t (st371 t (S372 t (st374 t (S397 t k))))))))))))))))))))))))))))
            obtain ⟨fs, hr, hrun, hended, hW, hsame⟩ := X374.leave (v := none) (fun _ => rfl)
            refine ⟨_, _, pre0 _ (C398 _ ?_), hrun, hended, _, _, rfl, ?_, ⟨_, rfl⟩, hW, hsame.mono (by decide) (by decide)⟩
            · exact X374.returnOut hx Bd.returns (hb hby d5_111) hr
            · show Q_rm_set0 Z a1 i1 v1 i s1 lo1 al1 vals h0 n0 _ T374.heap _
              rw [e374]
              have f399 := (f373.wr W374)
              have f400 := ((((F291.ext E306).other W311 (Or.inr (slot_ne (Or.inr (hw _ (List.mem_of_getElem? (i := 10) rfl))) (Or.inl (hw _ (List.mem_of_getElem? (i := 24) rfl))) (by decide) (t := .int) (t' := (.array .long)) (by decide) (by decide)))).other W318 (Or.inl ne_a1_b306)).other W374 (Or.inr (slot_ne (Or.inr (hw _ (List.mem_of_getElem? (i := 10) rfl))) (Or.inl (hw _ (List.mem_of_getElem? (i := 16) rfl))) (by decide) (t := .int) (t' := .int) (by decide) (by decide))))
              have f401 := ((((F292.ext E306).other W311 (Or.inr (slot_ne (Or.inr (hw _ (List.mem_of_getElem? (i := 12) rfl))) (Or.inl (hw _ (List.mem_of_getElem? (i := 24) rfl))) (by decide) (t := .int) (t' := (.array .long)) (by decide) (by decide)))).other W318 (Or.inl ne_a1_b306)).other W374 (Or.inr (slot_ne (Or.inr (hw _ (List.mem_of_getElem? (i := 12) rfl))) (Or.inl (hw _ (List.mem_of_getElem? (i := 16) rfl))) (by decide) (t := .int) (t' := .int) (by decide) (by decide))))
              have f402 := (f322.other W374 (Or.inr (slot_ne (Or.inl (hw _ (List.mem_of_getElem? (i := 14) rfl))) (Or.inl (hw _ (List.mem_of_getElem? (i := 16) rfl))) (by decide) (t := .long) (t' := .int) (by decide) (by decide))))
              have f403 := ((Fw311.other W318 (Or.inl ne_a1_b306)).other W374 (Or.inr (slot_ne (Or.inl (hw _ (List.mem_of_getElem? (i := 24) rfl))) (Or.inl (hw _ (List.mem_of_getElem? (i := 16) rfl))) (by decide) (t := (.array .long)) (t' := .int) (by decide) (by decide))))
              have f404 := (V318'.other W374 (Ne.symm ne_a1_b306))
              exact ⟨rfl, N376, z375, g_a1, f399, f400, f401, ⟨_, _, f402, Fw374⟩, Or.inr ⟨b306, g_b306, ne_a1_b306, f403, f404⟩⟩
        · have S405 : ∀ t, Steps p.tables e below (T366.setTop (mkF m 111 #[.val (.ref a1), .val (.int i1), .val (.long v1), .second, .val (.long (vals i)), .second] [])) t → Steps p.tables e below (T366.setTop (mkF m 90 #[.val (.ref a1), .val (.int i1), .val (.long v1), .second, .val (.long (vals i)), .second] [(.int (lcmpW (vals i) lo1))])) t := by
            intro t kt
            show Steps p.tables e below (T366.setTop (mkF m 90 #[.val (.ref a1), .val (.int i1), .val (.long v1), .second, .val (.long (vals i)), .second] [(.int (lcmpW (vals i) lo1))])) _
            refine XS.ifYes X366.here hx rfl (pc0 := 90) (pc' := 111) rfl (hb hby d5_90) rfl ((if0 _ _).trans (feq (fun q => hc368 ((lw_eq (vals i) lo1).mp q))).2) (by decide) (by decide) ?_
            exact kt
          have C406 : ∀ t, Steps p.tables e below (T366.setTop (mkF m 111 #[.val (.ref a1), .val (.int i1), .val (.long v1), .second, .val (.long (vals i)), .second] [])) t → Steps p.tables e below (s₁.setTop (mkF m 0 #[.val (.ref a1), .val (.int i1), .val (.long v1), .second, .unset, .unset] [])) t := (fun t k => (S296 t (st297.trans (S298 t (S302 t (st303 t (S304 t (st305 t (st306 t (st311 t (S314 t (st315 t (S316 t (st318 t (S321 t (st323 t (S324 t (S345 t (st346 t (S347 t (S365 t (st366 t (S367 t (S405 t k))))))))))))))))))))))))
          obtain ⟨fs, hr, hrun, hended, hW, hsame⟩ := X366.leave (v := none) (fun _ => rfl)
          refine ⟨_, _, pre0 _ (C406 _ ?_), hrun, hended, _, _, rfl, ?_, ⟨_, rfl⟩, hW, hsame.mono (by decide) (by decide)⟩
          · exact X366.returnOut hx Bd.returns (hb hby d5_111) hr
          · show Q_rm_set0 Z a1 i1 v1 i s1 lo1 al1 vals h0 n0 _ T366.heap _
            rw [e366]
            have f407 := ((f310.wr W311).wr W318)
            have f408 := (((F291.ext E306).other W311 (Or.inr (slot_ne (Or.inr (hw _ (List.mem_of_getElem? (i := 10) rfl))) (Or.inl (hw _ (List.mem_of_getElem? (i := 24) rfl))) (by decide) (t := .int) (t' := (.array .long)) (by decide) (by decide)))).other W318 (Or.inl ne_a1_b306))
            have f409 := (((F292.ext E306).other W311 (Or.inr (slot_ne (Or.inr (hw _ (List.mem_of_getElem? (i := 12) rfl))) (Or.inl (hw _ (List.mem_of_getElem? (i := 24) rfl))) (by decide) (t := .int) (t' := (.array .long)) (by decide) (by decide)))).other W318 (Or.inl ne_a1_b306))
            have f410 := (((F294.ext E306).other W311 (Or.inr (slot_ne (Or.inl (hw _ (List.mem_of_getElem? (i := 16) rfl))) (Or.inl (hw _ (List.mem_of_getElem? (i := 24) rfl))) (by decide) (t := .int) (t' := (.array .long)) (by decide) (by decide)))).other W318 (Or.inl ne_a1_b306))
            have f411 := (Fw311.other W318 (Or.inl ne_a1_b306))
            exact ⟨rfl, N320, z319, g_a1, f407, f408, f409, ⟨_, _, f322, f410⟩, Or.inr ⟨b306, g_b306, ne_a1_b306, f411, V318'⟩⟩
theorem ef_rm_set1 (m : MethodId) (x0 : Addr) (x1 : Int32) (x2 : Int64) : entryFrame m #[(.ref x0), (.int x1), (.long x2)] 6 = mkF m 0 #[.val (.ref x0), .val (.int x1), .val (.long x2), .second, .unset, .unset] [] := by first | (simp [entryFrame, mkF, argsToLocals, Value.category]; done) | rfl
def Q_rm_set1 (Z : State) (a1 : Addr) (i1 : Int32) (v1 : Int64) (i : Nat) (s1 : Int32) (lo1 : Int64) (al1 : Int32) (vals : Nat → Int64) (t1 : Addr) (h0 : Heap) (n0 : Nat) (v : Option Value) (h : Heap) (L : List Loc) : Prop := v = none ∧ Fr n0 L ∧ n0 ≤ h.size ∧ own_WS Z h n0 a1 s1 (own_put vals i v1)
set_option maxRecDepth 65536 in
set_option maxHeartbeats 40000000 in
theorem rm_set1 (l : Launch) (Z : State) (a0 : Array Value) (hw : ∀ d ∈ tables_1, d.before a0 Z = true) (ws : List Jvm.Cond) (a1 : Addr) (i1 : Int32) (v1 : Int64) (i : Nat) (s1 : Int32) (lo1 : Int64) (al1 : Int32) (vals : Nat → Int64) (t1 : Addr) (h0 : Heap) (n0 : Nat) (Z0 : n0 ≤ h0.size) (F412 : Exa Z h0 a1 "com/example/totality/totality/core/Windows") (F413 : Fld Z h0 a1 "com/example/totality/totality/core/Windows" "nodes" "I" (.int (3 : Int32))) (F414 : Fld Z h0 a1 "com/example/totality/totality/core/Windows" "self" "I" (.int s1)) (F415 : Fld Z h0 a1 "com/example/totality/totality/core/Windows" "lowest" "J" (.long lo1)) (F416 : Fld Z h0 a1 "com/example/totality/totality/core/Windows" "atLowest" "I" (.int al1)) (F417 : Fld Z h0 a1 "com/example/totality/totality/core/Windows" "starts" "[J" (.ref t1)) (F418 : ArF Z h0 t1 .long 3 (fun q => (.long (vals q)))) (g_a1 : n0 ≤ a1) (g_t1 : n0 ≤ t1) (ne_a1_t1 : a1 ≠ t1) (H : own_WS Z h0 n0 a1 s1 vals) (hi : own_ix i1 i) :
    MetFree l (⟨"com/example/totality/totality/core/Windows", "set", "(IJ)V"⟩ : MethodName) (head1 (Jvm.Cond.code (⟨"com/example/totality/totality/core/Windows", "set", "(IJ)V"⟩ : MethodName) prog_59_method_4_code 6 none :: ws) ({ frames := 1, cells := 1, slots := 3, locals := 17 } : Room)) (fun a U => a = #[(.ref a1), (.int i1), (.long v1)] ∧ Z.Warmed39 U.vm ∧ U.heap = h0) (fun _ _ _ _ _ => True) (fun _ U o U' => ∃ v L, o = .returned v ∧ Q_rm_set1 Z a1 i1 v1 i s1 lo1 al1 vals t1 h0 n0 v U'.heap L ∧ FrameEnd U o U' L ({ frames := 1, cells := 1, slots := 3, locals := 17 } : Room).cells ({ frames := 1, cells := 1, slots := 3, locals := 17 } : Room).slots) := by
  refine MetFree.of_bodySF (plainFor_of_name pn_0) hisR ?_
  intro p e s m args below meth c s₁ Bd hml0 hP hK
  obtain ⟨rfl, hZ, hh⟩ := hP
  have hx := Bd.exec
  have hby := Bd.bytes
  have hml : c.maxLocals = 6 := hml0
  have hown : s.vm.findClass "com/example/totality/totality/core/Windows" = some m.cls := findClass_of_methodNamed Bd.named
  have hnm := (name_of_methodNamed Bd.named Bd.method).1
  have X0 : Stand p l e ({ frames := 1, cells := 1, slots := 3, locals := 17 } : Room) s m #[(.ref a1), (.int i1), (.long v1)] below meth c s₁ [] 0 0 := Stand.of_body Bd
  have e0 : s₁.heap = h0 := by rw [← hh, Bd.state]; rfl
  have N0 := Fr.nil n0
  have pre0 : ∀ t, Steps p.tables e below (s₁.setTop (mkF m 0 #[.val (.ref a1), .val (.int i1), .val (.long v1), .second, .unset, .unset] [])) t → Steps p.tables e below (s₁.setTop (entryFrame m #[(.ref a1), (.int i1), (.long v1)] 6)) t := fun t k => castTop (ef_rm_set1 m a1 i1 v1) k
  have S419 : ∀ t, Steps p.tables e below (s₁.setTop (mkF m 2 #[.val (.ref a1), .val (.int i1), .val (.long v1), .second, .unset, .unset] [(.int i1), (.ref a1)])) t → Steps p.tables e below (s₁.setTop (mkF m 0 #[.val (.ref a1), .val (.int i1), .val (.long v1), .second, .unset, .unset] [])) t := by
    intro t kt
    show Steps p.tables e below (s₁.setTop (mkF m 0 #[.val (.ref a1), .val (.int i1), .val (.long v1), .second, .unset, .unset] [])) _
    refine XS.aloadN X0.here hx rfl (hb hby d5_0) rfl rfl ?_
    show Steps p.tables e below (s₁.setTop (mkF m 1 #[.val (.ref a1), .val (.int i1), .val (.long v1), .second, .unset, .unset] [(.ref a1)])) _
    refine XS.iloadN X0.here hx rfl (hb hby d5_1) rfl ?_
    exact kt
  obtain ⟨cq420, kq420, q420a, q420b, q420c⟩ := isOf hZ e0 F412
  obtain ⟨_, _, ⟨T420, L420, k420, n420⟩, -, X420, ⟨Lc420, hQ420, l420, y420, z420⟩, st420⟩ := X0.virtualBack hx (y := (⟨"com/example/totality/totality/core/Windows", "start", "(I)J"⟩ : MethodName)) (z := (⟨"com/example/totality/totality/core/Windows", "start", "(I)J"⟩ : MethodName)) hown (mvT hZ (hw _ (List.mem_of_getElem? (i := 34) rfl))) (mvT hZ (hw _ (List.mem_of_getElem? (i := 19) rfl))) (notFace_of_selects (args := #[]) (mvT hZ (hw _ (List.mem_of_getElem? (i := 21) rfl)))) (mvT hZ (hw _ (List.mem_of_getElem? (i := 21) rfl))) (mvT hZ (hw _ (List.mem_of_getElem? (i := 20) rfl))) (by decide) (backOf (W := 0) (rm_start l Z a0 hw [] a1 i1 i s1 vals h0 n0 Z0 H hi) hZ (hw _ (List.mem_of_getElem? (i := 22) rfl)) (hw _ (List.mem_of_getElem? (i := 2) rfl)) (by decide) (by decide)) q420a q420c (g := (mkF m 2 #[.val (.ref a1), .val (.int i1), .val (.long v1), .second, .unset, .unset] [(.int i1), (.ref a1)])) rfl (by rw [hml]; rfl) (Steps.refl _) (argsL := [(.int i1)]) (rest := []) (lenOf pd_0 rfl) rfl (by show 2 * 0 + _ ≤ _; exact Nat.le_of_eq rfl) (hb hby d5_2) (fun _ _ => ⟨rfl, e0, (by decide : 0 + 0 ≤ _), (by decide : 0 + 0 ≤ _)⟩)
  dsimp only [Pt.U, Pt.locs, Pt.cells, Pt.slots] at X420 l420 y420 z420 st420 hQ420
  subst l420 y420 z420
  obtain ⟨rfl, N420q, e420⟩ := hQ420
  have N420 := Fr.app N0 N420q
  have S421 : ∀ t, Steps p.tables e below (T420.setTop (mkF m 11 #[.val (.ref a1), .val (.int i1), .val (.long v1), .second, .val (.long (vals i)), .second] [(.int (lcmpW v1 (vals i)))])) t → Steps p.tables e below (T420.setTop (mkF m 5 #[.val (.ref a1), .val (.int i1), .val (.long v1), .second, .unset, .unset] [(.long (vals i))])) t := by
    intro t kt
    show Steps p.tables e below (T420.setTop (mkF m 5 #[.val (.ref a1), .val (.int i1), .val (.long v1), .second, .unset, .unset] [(.long (vals i))])) _
    refine XS.lstore X420.here hx rfl (hb hby d5_5) rfl (l' := #[.val (.ref a1), .val (.int i1), .val (.long v1), .second, .val (.long (vals i)), .second]) rfl ?_
    show Steps p.tables e below (T420.setTop (mkF m 7 #[.val (.ref a1), .val (.int i1), .val (.long v1), .second, .val (.long (vals i)), .second] [])) _
    refine XS.lloadN X420.here hx rfl (hb hby d5_7) rfl ?_
    show Steps p.tables e below (T420.setTop (mkF m 8 #[.val (.ref a1), .val (.int i1), .val (.long v1), .second, .val (.long (vals i)), .second] [(.long v1)])) _
    refine XS.lload X420.here hx rfl (hb hby d5_8) rfl ?_
    show Steps p.tables e below (T420.setTop (mkF m 10 #[.val (.ref a1), .val (.int i1), .val (.long v1), .second, .val (.long (vals i)), .second] [(.long (vals i)), (.long v1)])) _
    refine XS.lcmp X420.here hx rfl (hb hby d5_10) rfl ?_
    exact kt
  by_cases hc422 : v1 = (vals i)
  · have S423 : ∀ t, Steps p.tables e below (T420.setTop (mkF m 14 #[.val (.ref a1), .val (.int i1), .val (.long v1), .second, .val (.long (vals i)), .second] [])) t → Steps p.tables e below (T420.setTop (mkF m 11 #[.val (.ref a1), .val (.int i1), .val (.long v1), .second, .val (.long (vals i)), .second] [(.int (lcmpW v1 (vals i)))])) t := by
      intro t kt
      show Steps p.tables e below (T420.setTop (mkF m 11 #[.val (.ref a1), .val (.int i1), .val (.long v1), .second, .val (.long (vals i)), .second] [(.int (lcmpW v1 (vals i)))])) _
      refine XS.ifNo X420.here hx rfl (hb hby d5_11) rfl ((if0 _ _).trans (teq ((lw_eq v1 (vals i)).mpr hc422)).2) ?_
      exact kt
    have C424 : ∀ t, Steps p.tables e below (T420.setTop (mkF m 14 #[.val (.ref a1), .val (.int i1), .val (.long v1), .second, .val (.long (vals i)), .second] [])) t → Steps p.tables e below (s₁.setTop (mkF m 0 #[.val (.ref a1), .val (.int i1), .val (.long v1), .second, .unset, .unset] [])) t := (fun t k => (S419 t (st420.trans (S421 t (S423 t k)))))
    obtain ⟨fs, hr, hrun, hended, hW, hsame⟩ := X420.leave (v := none) (fun _ => rfl)
    refine ⟨_, _, pre0 _ (C424 _ ?_), hrun, hended, _, _, rfl, ?_, ⟨_, rfl⟩, hW, hsame.mono (by decide) (by decide)⟩
    · exact X420.returnOut hx Bd.returns (hb hby d5_14) hr
    · show Q_rm_set1 Z a1 i1 v1 i s1 lo1 al1 vals t1 h0 n0 _ T420.heap _
      rw [e420]
      exact ⟨rfl, N420, Z0, own_same hc422 H hi.2⟩
  · have S425 : ∀ t, Steps p.tables e below (T420.setTop (mkF m 16 #[.val (.ref a1), .val (.int i1), .val (.long v1), .second, .val (.long (vals i)), .second] [(.ref a1)])) t → Steps p.tables e below (T420.setTop (mkF m 11 #[.val (.ref a1), .val (.int i1), .val (.long v1), .second, .val (.long (vals i)), .second] [(.int (lcmpW v1 (vals i)))])) t := by
      intro t kt
      show Steps p.tables e below (T420.setTop (mkF m 11 #[.val (.ref a1), .val (.int i1), .val (.long v1), .second, .val (.long (vals i)), .second] [(.int (lcmpW v1 (vals i)))])) _
      refine XS.ifYes X420.here hx rfl (pc0 := 11) (pc' := 15) rfl (hb hby d5_11) rfl ((if0 _ _).trans (feq (fun q => hc422 ((lw_eq v1 (vals i)).mp q))).2) (by decide) (by decide) ?_
      show Steps p.tables e below (T420.setTop (mkF m 15 #[.val (.ref a1), .val (.int i1), .val (.long v1), .second, .val (.long (vals i)), .second] [])) _
      refine XS.aloadN X420.here hx rfl (hb hby d5_15) rfl rfl ?_
      exact kt
    obtain ⟨T426, X426, e426, st426⟩ := getF X420 hx hZ hown (host := "") (Or.inl (hw _ (List.mem_of_getElem? (i := 23) rfl))) Via.refl e420 F417 (g := (mkF m 16 #[.val (.ref a1), .val (.int i1), .val (.long v1), .second, .val (.long (vals i)), .second] [(.ref a1)])) rfl rfl (hb hby d5_16)
    have S427 : ∀ t, Steps p.tables e below (T426.setTop (mkF m 33 #[.val (.ref a1), .val (.int i1), .val (.long v1), .second, .val (.long (vals i)), .second] [(.ref a1)])) t → Steps p.tables e below (T426.setTop (mkF m 19 #[.val (.ref a1), .val (.int i1), .val (.long v1), .second, .val (.long (vals i)), .second] [(.ref t1)])) t := by
      intro t kt
      show Steps p.tables e below (T426.setTop (mkF m 19 #[.val (.ref a1), .val (.int i1), .val (.long v1), .second, .val (.long (vals i)), .second] [(.ref t1)])) _
      refine XS.ifnonnullYes X426.here hx rfl (pc0 := 19) (pc' := 32) rfl (hb hby d5_19) rfl (by decide) (by decide) ?_
      show Steps p.tables e below (T426.setTop (mkF m 32 #[.val (.ref a1), .val (.int i1), .val (.long v1), .second, .val (.long (vals i)), .second] [])) _
      refine XS.aloadN X426.here hx rfl (hb hby d5_32) rfl rfl ?_
      exact kt
    obtain ⟨T428, X428, e428, st428⟩ := getF X426 hx hZ hown (host := "") (Or.inl (hw _ (List.mem_of_getElem? (i := 23) rfl))) Via.refl e426 F417 (g := (mkF m 33 #[.val (.ref a1), .val (.int i1), .val (.long v1), .second, .val (.long (vals i)), .second] [(.ref a1)])) rfl rfl (hb hby d5_33)
    have S429 : ∀ t, Steps p.tables e below (T428.setTop (mkF m 38 #[.val (.ref a1), .val (.int i1), .val (.long v1), .second, .val (.long (vals i)), .second] [(.long v1), (.int i1), (.ref t1)])) t → Steps p.tables e below (T428.setTop (mkF m 36 #[.val (.ref a1), .val (.int i1), .val (.long v1), .second, .val (.long (vals i)), .second] [(.ref t1)])) t := by
      intro t kt
      show Steps p.tables e below (T428.setTop (mkF m 36 #[.val (.ref a1), .val (.int i1), .val (.long v1), .second, .val (.long (vals i)), .second] [(.ref t1)])) _
      refine XS.iloadN X428.here hx rfl (hb hby d5_36) rfl ?_
      show Steps p.tables e below (T428.setTop (mkF m 37 #[.val (.ref a1), .val (.int i1), .val (.long v1), .second, .val (.long (vals i)), .second] [(.int i1), (.ref t1)])) _
      refine XS.lloadN X428.here hx rfl (hb hby d5_37) rfl ?_
      exact kt
    obtain ⟨T430, h430, X430, e430, W430, V430, st430⟩ := ArF.stJ X428 hx hZ e428 F418 (i := i) hi.1 hi.2 (g := (mkF m 38 #[.val (.ref a1), .val (.int i1), .val (.long v1), .second, .val (.long (vals i)), .second] [(.long v1), (.int i1), (.ref t1)])) rfl rfl (hb hby d5_38)
    have z431 : n0 ≤ h430.size := Nat.le_trans Z0 (Keep.of_wr W430).1
    have N432 := Fr.snoc X430 N420 g_t1
    have V430' := V430.congr (f' := (fun q => (.long (own_put vals i v1 q)))) (fun q hq => by simp only [own_put]; split <;> rfl)
    have S433 : ∀ t, Steps p.tables e below (T430.setTop (mkF m 41 #[.val (.ref a1), .val (.int i1), .val (.long v1), .second, .val (.long (vals i)), .second] [(.ref a1), (.long v1)])) t → Steps p.tables e below (T430.setTop (mkF m 39 #[.val (.ref a1), .val (.int i1), .val (.long v1), .second, .val (.long (vals i)), .second] [])) t := by
      intro t kt
      show Steps p.tables e below (T430.setTop (mkF m 39 #[.val (.ref a1), .val (.int i1), .val (.long v1), .second, .val (.long (vals i)), .second] [])) _
      refine XS.lloadN X430.here hx rfl (hb hby d5_39) rfl ?_
      show Steps p.tables e below (T430.setTop (mkF m 40 #[.val (.ref a1), .val (.int i1), .val (.long v1), .second, .val (.long (vals i)), .second] [(.long v1)])) _
      refine XS.aloadN X430.here hx rfl (hb hby d5_40) rfl rfl ?_
      exact kt
    have f434 := (F415.other W430 (Or.inl ne_a1_t1))
    obtain ⟨T435, X435, e435, st435⟩ := getF X430 hx hZ hown (host := "") (Or.inl (hw _ (List.mem_of_getElem? (i := 13) rfl))) Via.refl e430 f434 (g := (mkF m 41 #[.val (.ref a1), .val (.int i1), .val (.long v1), .second, .val (.long (vals i)), .second] [(.ref a1), (.long v1)])) rfl rfl (hb hby d5_41)
    have S436 : ∀ t, Steps p.tables e below (T435.setTop (mkF m 45 #[.val (.ref a1), .val (.int i1), .val (.long v1), .second, .val (.long (vals i)), .second] [(.int (lcmpW v1 lo1))])) t → Steps p.tables e below (T435.setTop (mkF m 44 #[.val (.ref a1), .val (.int i1), .val (.long v1), .second, .val (.long (vals i)), .second] [(.long lo1), (.long v1)])) t := by
      intro t kt
      show Steps p.tables e below (T435.setTop (mkF m 44 #[.val (.ref a1), .val (.int i1), .val (.long v1), .second, .val (.long (vals i)), .second] [(.long lo1), (.long v1)])) _
      refine XS.lcmp X435.here hx rfl (hb hby d5_44) rfl ?_
      exact kt
    by_cases hc437 : v1 < lo1
    · have S438 : ∀ t, Steps p.tables e below (T435.setTop (mkF m 50 #[.val (.ref a1), .val (.int i1), .val (.long v1), .second, .val (.long (vals i)), .second] [(.long v1), (.ref a1)])) t → Steps p.tables e below (T435.setTop (mkF m 45 #[.val (.ref a1), .val (.int i1), .val (.long v1), .second, .val (.long (vals i)), .second] [(.int (lcmpW v1 lo1))])) t := by
        intro t kt
        show Steps p.tables e below (T435.setTop (mkF m 45 #[.val (.ref a1), .val (.int i1), .val (.long v1), .second, .val (.long (vals i)), .second] [(.int (lcmpW v1 lo1))])) _
        refine XS.ifNo X435.here hx rfl (hb hby d5_45) rfl ((if0 _ _).trans (tlt ((lw_lt v1 lo1).mpr hc437)).2.1) ?_
        show Steps p.tables e below (T435.setTop (mkF m 48 #[.val (.ref a1), .val (.int i1), .val (.long v1), .second, .val (.long (vals i)), .second] [])) _
        refine XS.aloadN X435.here hx rfl (hb hby d5_48) rfl rfl ?_
        show Steps p.tables e below (T435.setTop (mkF m 49 #[.val (.ref a1), .val (.int i1), .val (.long v1), .second, .val (.long (vals i)), .second] [(.ref a1)])) _
        refine XS.lloadN X435.here hx rfl (hb hby d5_49) rfl ?_
        exact kt
      have f439 := (F412.wr W430)
      obtain ⟨T440, h440, X440, e440, W440, st440⟩ := putF X435 hx hZ hown (host := "") (Or.inl (hw _ (List.mem_of_getElem? (i := 13) rfl))) Via.refl e435 f434 f439 (Or.inl (hw _ (List.mem_of_getElem? (i := 14) rfl))) (hw _ (List.mem_of_getElem? (i := 1) rfl)) (ty := .long) (by decide) rfl rfl (g := (mkF m 50 #[.val (.ref a1), .val (.int i1), .val (.long v1), .second, .val (.long (vals i)), .second] [(.long v1), (.ref a1)])) rfl rfl (hb hby d5_50)
      have z441 : n0 ≤ h440.size := Nat.le_trans z431 (Keep.of_wr W440).1
      have N442 := Fr.snoc X440 N432 g_a1
      have Fw440 := f434.same W440
      have S443 : ∀ t, Steps p.tables e below (T440.setTop (mkF m 55 #[.val (.ref a1), .val (.int i1), .val (.long v1), .second, .val (.long (vals i)), .second] [(.int (1 : Int32)), (.ref a1)])) t → Steps p.tables e below (T440.setTop (mkF m 53 #[.val (.ref a1), .val (.int i1), .val (.long v1), .second, .val (.long (vals i)), .second] [])) t := by
        intro t kt
        show Steps p.tables e below (T440.setTop (mkF m 53 #[.val (.ref a1), .val (.int i1), .val (.long v1), .second, .val (.long (vals i)), .second] [])) _
        refine XS.aloadN X440.here hx rfl (hb hby d5_53) rfl rfl ?_
        show Steps p.tables e below (T440.setTop (mkF m 54 #[.val (.ref a1), .val (.int i1), .val (.long v1), .second, .val (.long (vals i)), .second] [(.ref a1)])) _
        refine XS.iconst X440.here hx rfl (hb hby d5_54) ?_
        exact kt
      have f444 := ((F416.other W430 (Or.inl ne_a1_t1)).other W440 (Or.inr (slot_ne (Or.inl (hw _ (List.mem_of_getElem? (i := 16) rfl))) (Or.inl (hw _ (List.mem_of_getElem? (i := 14) rfl))) (by decide) (t := .int) (t' := .long) (by decide) (by decide))))
      have f445 := (f439.wr W440)
      obtain ⟨T446, h446, X446, e446, W446, st446⟩ := putF X440 hx hZ hown (host := "") (Or.inl (hw _ (List.mem_of_getElem? (i := 15) rfl))) Via.refl e440 f444 f445 (Or.inl (hw _ (List.mem_of_getElem? (i := 16) rfl))) (hw _ (List.mem_of_getElem? (i := 1) rfl)) (ty := .int) (by decide) rfl rfl (g := (mkF m 55 #[.val (.ref a1), .val (.int i1), .val (.long v1), .second, .val (.long (vals i)), .second] [(.int (1 : Int32)), (.ref a1)])) rfl rfl (hb hby d5_55)
      have z447 : n0 ≤ h446.size := Nat.le_trans z441 (Keep.of_wr W446).1
      have N448 := Fr.snoc X446 N442 g_a1
      have Fw446 := f444.same W446
      have S449 : ∀ t, Steps p.tables e below (T446.setTop (mkF m 111 #[.val (.ref a1), .val (.int i1), .val (.long v1), .second, .val (.long (vals i)), .second] [])) t → Steps p.tables e below (T446.setTop (mkF m 58 #[.val (.ref a1), .val (.int i1), .val (.long v1), .second, .val (.long (vals i)), .second] [])) t := by
        intro t kt
        show Steps p.tables e below (T446.setTop (mkF m 58 #[.val (.ref a1), .val (.int i1), .val (.long v1), .second, .val (.long (vals i)), .second] [])) _
        refine XS.goto X446.here hx rfl (pc0 := 58) (pc' := 111) rfl (hb hby d5_58) (by decide) (by decide) ?_
        exact kt
      have C450 : ∀ t, Steps p.tables e below (T446.setTop (mkF m 111 #[.val (.ref a1), .val (.int i1), .val (.long v1), .second, .val (.long (vals i)), .second] [])) t → Steps p.tables e below (s₁.setTop (mkF m 0 #[.val (.ref a1), .val (.int i1), .val (.long v1), .second, .unset, .unset] [])) t := (fun t k => (S419 t (st420.trans (S421 t (S425 t (st426 t (S427 t (st428 t (S429 t (st430 t (S433 t (st435 t (S436 t (S438 t (st440 t (S443 t (st446 t (S449 t k))))))))))))))))))
      obtain ⟨fs, hr, hrun, hended, hW, hsame⟩ := X446.leave (v := none) (fun _ => rfl)
      refine ⟨_, _, pre0 _ (C450 _ ?_), hrun, hended, _, _, rfl, ?_, ⟨_, rfl⟩, hW, hsame.mono (by decide) (by decide)⟩
      · exact X446.returnOut hx Bd.returns (hb hby d5_111) hr
      · show Q_rm_set1 Z a1 i1 v1 i s1 lo1 al1 vals t1 h0 n0 _ T446.heap _
        rw [e446]
        have f451 := (f445.wr W446)
        have f452 := (((F413.other W430 (Or.inl ne_a1_t1)).other W440 (Or.inr (slot_ne (Or.inr (hw _ (List.mem_of_getElem? (i := 10) rfl))) (Or.inl (hw _ (List.mem_of_getElem? (i := 14) rfl))) (by decide) (t := .int) (t' := .long) (by decide) (by decide)))).other W446 (Or.inr (slot_ne (Or.inr (hw _ (List.mem_of_getElem? (i := 10) rfl))) (Or.inl (hw _ (List.mem_of_getElem? (i := 16) rfl))) (by decide) (t := .int) (t' := .int) (by decide) (by decide))))
        have f453 := (((F414.other W430 (Or.inl ne_a1_t1)).other W440 (Or.inr (slot_ne (Or.inr (hw _ (List.mem_of_getElem? (i := 12) rfl))) (Or.inl (hw _ (List.mem_of_getElem? (i := 14) rfl))) (by decide) (t := .int) (t' := .long) (by decide) (by decide)))).other W446 (Or.inr (slot_ne (Or.inr (hw _ (List.mem_of_getElem? (i := 12) rfl))) (Or.inl (hw _ (List.mem_of_getElem? (i := 16) rfl))) (by decide) (t := .int) (t' := .int) (by decide) (by decide))))
        have f454 := (Fw440.other W446 (Or.inr (slot_ne (Or.inl (hw _ (List.mem_of_getElem? (i := 14) rfl))) (Or.inl (hw _ (List.mem_of_getElem? (i := 16) rfl))) (by decide) (t := .long) (t' := .int) (by decide) (by decide))))
        have f455 := (((F417.other W430 (Or.inl ne_a1_t1)).other W440 (Or.inr (slot_ne (Or.inl (hw _ (List.mem_of_getElem? (i := 24) rfl))) (Or.inl (hw _ (List.mem_of_getElem? (i := 14) rfl))) (by decide) (t := (.array .long)) (t' := .long) (by decide) (by decide)))).other W446 (Or.inr (slot_ne (Or.inl (hw _ (List.mem_of_getElem? (i := 24) rfl))) (Or.inl (hw _ (List.mem_of_getElem? (i := 16) rfl))) (by decide) (t := (.array .long)) (t' := .int) (by decide) (by decide))))
        have f456 := ((V430'.other W440 (Ne.symm ne_a1_t1)).other W446 (Ne.symm ne_a1_t1))
        exact ⟨rfl, N448, z447, g_a1, f451, f452, f453, ⟨_, _, f454, Fw446⟩, Or.inr ⟨t1, g_t1, ne_a1_t1, f455, f456⟩⟩
    · have S457 : ∀ t, Steps p.tables e below (T435.setTop (mkF m 63 #[.val (.ref a1), .val (.int i1), .val (.long v1), .second, .val (.long (vals i)), .second] [(.ref a1), (.long v1)])) t → Steps p.tables e below (T435.setTop (mkF m 45 #[.val (.ref a1), .val (.int i1), .val (.long v1), .second, .val (.long (vals i)), .second] [(.int (lcmpW v1 lo1))])) t := by
        intro t kt
        show Steps p.tables e below (T435.setTop (mkF m 45 #[.val (.ref a1), .val (.int i1), .val (.long v1), .second, .val (.long (vals i)), .second] [(.int (lcmpW v1 lo1))])) _
        refine XS.ifYes X435.here hx rfl (pc0 := 45) (pc' := 61) rfl (hb hby d5_45) rfl ((if0 _ _).trans (flt (fun q => hc437 ((lw_lt v1 lo1).mp q))).2.1) (by decide) (by decide) ?_
        show Steps p.tables e below (T435.setTop (mkF m 61 #[.val (.ref a1), .val (.int i1), .val (.long v1), .second, .val (.long (vals i)), .second] [])) _
        refine XS.lloadN X435.here hx rfl (hb hby d5_61) rfl ?_
        show Steps p.tables e below (T435.setTop (mkF m 62 #[.val (.ref a1), .val (.int i1), .val (.long v1), .second, .val (.long (vals i)), .second] [(.long v1)])) _
        refine XS.aloadN X435.here hx rfl (hb hby d5_62) rfl rfl ?_
        exact kt
      obtain ⟨T458, X458, e458, st458⟩ := getF X435 hx hZ hown (host := "") (Or.inl (hw _ (List.mem_of_getElem? (i := 13) rfl))) Via.refl e435 f434 (g := (mkF m 63 #[.val (.ref a1), .val (.int i1), .val (.long v1), .second, .val (.long (vals i)), .second] [(.ref a1), (.long v1)])) rfl rfl (hb hby d5_63)
      have S459 : ∀ t, Steps p.tables e below (T458.setTop (mkF m 67 #[.val (.ref a1), .val (.int i1), .val (.long v1), .second, .val (.long (vals i)), .second] [(.int (lcmpW v1 lo1))])) t → Steps p.tables e below (T458.setTop (mkF m 66 #[.val (.ref a1), .val (.int i1), .val (.long v1), .second, .val (.long (vals i)), .second] [(.long lo1), (.long v1)])) t := by
        intro t kt
        show Steps p.tables e below (T458.setTop (mkF m 66 #[.val (.ref a1), .val (.int i1), .val (.long v1), .second, .val (.long (vals i)), .second] [(.long lo1), (.long v1)])) _
        refine XS.lcmp X458.here hx rfl (hb hby d5_66) rfl ?_
        exact kt
      by_cases hc460 : v1 = lo1
      · have S461 : ∀ t, Steps p.tables e below (T458.setTop (mkF m 72 #[.val (.ref a1), .val (.int i1), .val (.long v1), .second, .val (.long (vals i)), .second] [(.ref a1), (.ref a1)])) t → Steps p.tables e below (T458.setTop (mkF m 67 #[.val (.ref a1), .val (.int i1), .val (.long v1), .second, .val (.long (vals i)), .second] [(.int (lcmpW v1 lo1))])) t := by
          intro t kt
          show Steps p.tables e below (T458.setTop (mkF m 67 #[.val (.ref a1), .val (.int i1), .val (.long v1), .second, .val (.long (vals i)), .second] [(.int (lcmpW v1 lo1))])) _
          refine XS.ifNo X458.here hx rfl (hb hby d5_67) rfl ((if0 _ _).trans (teq ((lw_eq v1 lo1).mpr hc460)).2) ?_
          show Steps p.tables e below (T458.setTop (mkF m 70 #[.val (.ref a1), .val (.int i1), .val (.long v1), .second, .val (.long (vals i)), .second] [])) _
          refine XS.aloadN X458.here hx rfl (hb hby d5_70) rfl rfl ?_
          show Steps p.tables e below (T458.setTop (mkF m 71 #[.val (.ref a1), .val (.int i1), .val (.long v1), .second, .val (.long (vals i)), .second] [(.ref a1)])) _
          refine XS.dup X458.here hx rfl (hb hby d5_71) rfl rfl ?_
          exact kt
        have f462 := (F416.other W430 (Or.inl ne_a1_t1))
        obtain ⟨T463, X463, e463, st463⟩ := getF X458 hx hZ hown (host := "") (Or.inl (hw _ (List.mem_of_getElem? (i := 15) rfl))) Via.refl e458 f462 (g := (mkF m 72 #[.val (.ref a1), .val (.int i1), .val (.long v1), .second, .val (.long (vals i)), .second] [(.ref a1), (.ref a1)])) rfl rfl (hb hby d5_72)
        have S464 : ∀ t, Steps p.tables e below (T463.setTop (mkF m 77 #[.val (.ref a1), .val (.int i1), .val (.long v1), .second, .val (.long (vals i)), .second] [(.int (al1 + (1 : Int32))), (.ref a1)])) t → Steps p.tables e below (T463.setTop (mkF m 75 #[.val (.ref a1), .val (.int i1), .val (.long v1), .second, .val (.long (vals i)), .second] [(.int al1), (.ref a1)])) t := by
          intro t kt
          show Steps p.tables e below (T463.setTop (mkF m 75 #[.val (.ref a1), .val (.int i1), .val (.long v1), .second, .val (.long (vals i)), .second] [(.int al1), (.ref a1)])) _
          refine XS.iconst X463.here hx rfl (hb hby d5_75) ?_
          show Steps p.tables e below (T463.setTop (mkF m 76 #[.val (.ref a1), .val (.int i1), .val (.long v1), .second, .val (.long (vals i)), .second] [(.int (1 : Int32)), (.int al1), (.ref a1)])) _
          refine XS.iadd X463.here hx rfl (hb hby d5_76) rfl ?_
          exact kt
        have f465 := (F412.wr W430)
        obtain ⟨T466, h466, X466, e466, W466, st466⟩ := putF X463 hx hZ hown (host := "") (Or.inl (hw _ (List.mem_of_getElem? (i := 15) rfl))) Via.refl e463 f462 f465 (Or.inl (hw _ (List.mem_of_getElem? (i := 16) rfl))) (hw _ (List.mem_of_getElem? (i := 1) rfl)) (ty := .int) (by decide) rfl rfl (g := (mkF m 77 #[.val (.ref a1), .val (.int i1), .val (.long v1), .second, .val (.long (vals i)), .second] [(.int (al1 + (1 : Int32))), (.ref a1)])) rfl rfl (hb hby d5_77)
        have z467 : n0 ≤ h466.size := Nat.le_trans z431 (Keep.of_wr W466).1
        have N468 := Fr.snoc X466 N432 g_a1
        have Fw466 := f462.same W466
        have S469 : ∀ t, Steps p.tables e below (T466.setTop (mkF m 111 #[.val (.ref a1), .val (.int i1), .val (.long v1), .second, .val (.long (vals i)), .second] [])) t → Steps p.tables e below (T466.setTop (mkF m 80 #[.val (.ref a1), .val (.int i1), .val (.long v1), .second, .val (.long (vals i)), .second] [])) t := by
          intro t kt
          show Steps p.tables e below (T466.setTop (mkF m 80 #[.val (.ref a1), .val (.int i1), .val (.long v1), .second, .val (.long (vals i)), .second] [])) _
          refine XS.goto X466.here hx rfl (pc0 := 80) (pc' := 111) rfl (hb hby d5_80) (by decide) (by decide) ?_
          exact kt
        have C470 : ∀ t, Steps p.tables e below (T466.setTop (mkF m 111 #[.val (.ref a1), .val (.int i1), .val (.long v1), .second, .val (.long (vals i)), .second] [])) t → Steps p.tables e below (s₁.setTop (mkF m 0 #[.val (.ref a1), .val (.int i1), .val (.long v1), .second, .unset, .unset] [])) t := (fun t k => (S419 t (st420.trans (S421 t (S425 t (st426 t (S427 t (st428 t (S429 t (st430 t (S433 t (st435 t (S436 t (S457 t (st458 t (S459 t (S461 t (st463 t (S464 t (st466 t (S469 t k)))))))))))))))))))))
        obtain ⟨fs, hr, hrun, hended, hW, hsame⟩ := X466.leave (v := none) (fun _ => rfl)
        refine ⟨_, _, pre0 _ (C470 _ ?_), hrun, hended, _, _, rfl, ?_, ⟨_, rfl⟩, hW, hsame.mono (by decide) (by decide)⟩
        · exact X466.returnOut hx Bd.returns (hb hby d5_111) hr
        · show Q_rm_set1 Z a1 i1 v1 i s1 lo1 al1 vals t1 h0 n0 _ T466.heap _
          rw [e466]
          have f471 := (f465.wr W466)
          have f472 := ((F413.other W430 (Or.inl ne_a1_t1)).other W466 (Or.inr (slot_ne (Or.inr (hw _ (List.mem_of_getElem? (i := 10) rfl))) (Or.inl (hw _ (List.mem_of_getElem? (i := 16) rfl))) (by decide) (t := .int) (t' := .int) (by decide) (by decide))))
          have f473 := ((F414.other W430 (Or.inl ne_a1_t1)).other W466 (Or.inr (slot_ne (Or.inr (hw _ (List.mem_of_getElem? (i := 12) rfl))) (Or.inl (hw _ (List.mem_of_getElem? (i := 16) rfl))) (by decide) (t := .int) (t' := .int) (by decide) (by decide))))
          have f474 := (f434.other W466 (Or.inr (slot_ne (Or.inl (hw _ (List.mem_of_getElem? (i := 14) rfl))) (Or.inl (hw _ (List.mem_of_getElem? (i := 16) rfl))) (by decide) (t := .long) (t' := .int) (by decide) (by decide))))
          have f475 := ((F417.other W430 (Or.inl ne_a1_t1)).other W466 (Or.inr (slot_ne (Or.inl (hw _ (List.mem_of_getElem? (i := 24) rfl))) (Or.inl (hw _ (List.mem_of_getElem? (i := 16) rfl))) (by decide) (t := (.array .long)) (t' := .int) (by decide) (by decide))))
          have f476 := (V430'.other W466 (Ne.symm ne_a1_t1))
          exact ⟨rfl, N468, z467, g_a1, f471, f472, f473, ⟨_, _, f474, Fw466⟩, Or.inr ⟨t1, g_t1, ne_a1_t1, f475, f476⟩⟩
      · have S477 : ∀ t, Steps p.tables e below (T458.setTop (mkF m 86 #[.val (.ref a1), .val (.int i1), .val (.long v1), .second, .val (.long (vals i)), .second] [(.ref a1), (.long (vals i))])) t → Steps p.tables e below (T458.setTop (mkF m 67 #[.val (.ref a1), .val (.int i1), .val (.long v1), .second, .val (.long (vals i)), .second] [(.int (lcmpW v1 lo1))])) t := by
          intro t kt
          show Steps p.tables e below (T458.setTop (mkF m 67 #[.val (.ref a1), .val (.int i1), .val (.long v1), .second, .val (.long (vals i)), .second] [(.int (lcmpW v1 lo1))])) _
          refine XS.ifYes X458.here hx rfl (pc0 := 67) (pc' := 83) rfl (hb hby d5_67) rfl ((if0 _ _).trans (feq (fun q => hc460 ((lw_eq v1 lo1).mp q))).2) (by decide) (by decide) ?_
          show Steps p.tables e below (T458.setTop (mkF m 83 #[.val (.ref a1), .val (.int i1), .val (.long v1), .second, .val (.long (vals i)), .second] [])) _
          refine XS.lload X458.here hx rfl (hb hby d5_83) rfl ?_
          show Steps p.tables e below (T458.setTop (mkF m 85 #[.val (.ref a1), .val (.int i1), .val (.long v1), .second, .val (.long (vals i)), .second] [(.long (vals i))])) _
          refine XS.aloadN X458.here hx rfl (hb hby d5_85) rfl rfl ?_
          exact kt
        obtain ⟨T478, X478, e478, st478⟩ := getF X458 hx hZ hown (host := "") (Or.inl (hw _ (List.mem_of_getElem? (i := 13) rfl))) Via.refl e458 f434 (g := (mkF m 86 #[.val (.ref a1), .val (.int i1), .val (.long v1), .second, .val (.long (vals i)), .second] [(.ref a1), (.long (vals i))])) rfl rfl (hb hby d5_86)
        have S479 : ∀ t, Steps p.tables e below (T478.setTop (mkF m 90 #[.val (.ref a1), .val (.int i1), .val (.long v1), .second, .val (.long (vals i)), .second] [(.int (lcmpW (vals i) lo1))])) t → Steps p.tables e below (T478.setTop (mkF m 89 #[.val (.ref a1), .val (.int i1), .val (.long v1), .second, .val (.long (vals i)), .second] [(.long lo1), (.long (vals i))])) t := by
          intro t kt
          show Steps p.tables e below (T478.setTop (mkF m 89 #[.val (.ref a1), .val (.int i1), .val (.long v1), .second, .val (.long (vals i)), .second] [(.long lo1), (.long (vals i))])) _
          refine XS.lcmp X478.here hx rfl (hb hby d5_89) rfl ?_
          exact kt
        by_cases hc480 : (vals i) = lo1
        · have S481 : ∀ t, Steps p.tables e below (T478.setTop (mkF m 95 #[.val (.ref a1), .val (.int i1), .val (.long v1), .second, .val (.long (vals i)), .second] [(.ref a1), (.ref a1)])) t → Steps p.tables e below (T478.setTop (mkF m 90 #[.val (.ref a1), .val (.int i1), .val (.long v1), .second, .val (.long (vals i)), .second] [(.int (lcmpW (vals i) lo1))])) t := by
            intro t kt
            show Steps p.tables e below (T478.setTop (mkF m 90 #[.val (.ref a1), .val (.int i1), .val (.long v1), .second, .val (.long (vals i)), .second] [(.int (lcmpW (vals i) lo1))])) _
            refine XS.ifNo X478.here hx rfl (hb hby d5_90) rfl ((if0 _ _).trans (teq ((lw_eq (vals i) lo1).mpr hc480)).2) ?_
            show Steps p.tables e below (T478.setTop (mkF m 93 #[.val (.ref a1), .val (.int i1), .val (.long v1), .second, .val (.long (vals i)), .second] [])) _
            refine XS.aloadN X478.here hx rfl (hb hby d5_93) rfl rfl ?_
            show Steps p.tables e below (T478.setTop (mkF m 94 #[.val (.ref a1), .val (.int i1), .val (.long v1), .second, .val (.long (vals i)), .second] [(.ref a1)])) _
            refine XS.dup X478.here hx rfl (hb hby d5_94) rfl rfl ?_
            exact kt
          have f482 := (F416.other W430 (Or.inl ne_a1_t1))
          obtain ⟨T483, X483, e483, st483⟩ := getF X478 hx hZ hown (host := "") (Or.inl (hw _ (List.mem_of_getElem? (i := 15) rfl))) Via.refl e478 f482 (g := (mkF m 95 #[.val (.ref a1), .val (.int i1), .val (.long v1), .second, .val (.long (vals i)), .second] [(.ref a1), (.ref a1)])) rfl rfl (hb hby d5_95)
          have S484 : ∀ t, Steps p.tables e below (T483.setTop (mkF m 101 #[.val (.ref a1), .val (.int i1), .val (.long v1), .second, .val (.long (vals i)), .second] [(.int (al1 - (1 : Int32))), (.ref a1), (.int (al1 - (1 : Int32)))])) t → Steps p.tables e below (T483.setTop (mkF m 98 #[.val (.ref a1), .val (.int i1), .val (.long v1), .second, .val (.long (vals i)), .second] [(.int al1), (.ref a1)])) t := by
            intro t kt
            show Steps p.tables e below (T483.setTop (mkF m 98 #[.val (.ref a1), .val (.int i1), .val (.long v1), .second, .val (.long (vals i)), .second] [(.int al1), (.ref a1)])) _
            refine XS.iconst X483.here hx rfl (hb hby d5_98) ?_
            show Steps p.tables e below (T483.setTop (mkF m 99 #[.val (.ref a1), .val (.int i1), .val (.long v1), .second, .val (.long (vals i)), .second] [(.int (1 : Int32)), (.int al1), (.ref a1)])) _
            refine XS.isub X483.here hx rfl (hb hby d5_99) rfl ?_
            show Steps p.tables e below (T483.setTop (mkF m 100 #[.val (.ref a1), .val (.int i1), .val (.long v1), .second, .val (.long (vals i)), .second] [(.int (al1 - (1 : Int32))), (.ref a1)])) _
            refine XS.dupX1 X483.here hx rfl (hb hby d5_100) rfl rfl rfl ?_
            exact kt
          have f485 := (F412.wr W430)
          obtain ⟨T486, h486, X486, e486, W486, st486⟩ := putF X483 hx hZ hown (host := "") (Or.inl (hw _ (List.mem_of_getElem? (i := 15) rfl))) Via.refl e483 f482 f485 (Or.inl (hw _ (List.mem_of_getElem? (i := 16) rfl))) (hw _ (List.mem_of_getElem? (i := 1) rfl)) (ty := .int) (by decide) rfl rfl (g := (mkF m 101 #[.val (.ref a1), .val (.int i1), .val (.long v1), .second, .val (.long (vals i)), .second] [(.int (al1 - (1 : Int32))), (.ref a1), (.int (al1 - (1 : Int32)))])) rfl rfl (hb hby d5_101)
          have z487 : n0 ≤ h486.size := Nat.le_trans z431 (Keep.of_wr W486).1
          have N488 := Fr.snoc X486 N432 g_a1
          have Fw486 := f482.same W486
          by_cases hc489 : (al1 - (1 : Int32)) = (0 : Int32)
          · have f492 := (V430'.other W486 (Ne.symm ne_a1_t1))
            have f498 := (f485.wr W486)
            have f499 := ((F413.other W430 (Or.inl ne_a1_t1)).other W486 (Or.inr (slot_ne (Or.inr (hw _ (List.mem_of_getElem? (i := 10) rfl))) (Or.inl (hw _ (List.mem_of_getElem? (i := 16) rfl))) (by decide) (t := .int) (t' := .int) (by decide) (by decide))))
            have f500 := ((F414.other W430 (Or.inl ne_a1_t1)).other W486 (Or.inr (slot_ne (Or.inr (hw _ (List.mem_of_getElem? (i := 12) rfl))) (Or.inl (hw _ (List.mem_of_getElem? (i := 16) rfl))) (by decide) (t := .int) (t' := .int) (by decide) (by decide))))
            have f501 := (f434.other W486 (Or.inr (slot_ne (Or.inl (hw _ (List.mem_of_getElem? (i := 14) rfl))) (Or.inl (hw _ (List.mem_of_getElem? (i := 16) rfl))) (by decide) (t := .long) (t' := .int) (by decide) (by decide))))
            have f502 := ((F417.other W430 (Or.inl ne_a1_t1)).other W486 (Or.inr (slot_ne (Or.inl (hw _ (List.mem_of_getElem? (i := 24) rfl))) (Or.inl (hw _ (List.mem_of_getElem? (i := 16) rfl))) (by decide) (t := (.array .long)) (t' := .int) (by decide) (by decide))))
            have S503 : ∀ t, Steps p.tables e below (T486.setTop (mkF m 108 #[.val (.ref a1), .val (.int i1), .val (.long v1), .second, .val (.long (vals i)), .second] [(.ref a1)])) t → Steps p.tables e below (T486.setTop (mkF m 104 #[.val (.ref a1), .val (.int i1), .val (.long v1), .second, .val (.long (vals i)), .second] [(.int (al1 - (1 : Int32)))])) t := by
              intro t kt
              show Steps p.tables e below (T486.setTop (mkF m 104 #[.val (.ref a1), .val (.int i1), .val (.long v1), .second, .val (.long (vals i)), .second] [(.int (al1 - (1 : Int32)))])) _
              refine XS.ifNo X486.here hx rfl (hb hby d5_104) rfl ((if0 _ _).trans (teq hc489).2) ?_
              show Steps p.tables e below (T486.setTop (mkF m 107 #[.val (.ref a1), .val (.int i1), .val (.long v1), .second, .val (.long (vals i)), .second] [])) _
              refine XS.aloadN X486.here hx rfl (hb hby d5_107) rfl rfl ?_
              exact kt
            obtain ⟨cq504, q504, q504'⟩ := f498.cell
            obtain ⟨_, _, ⟨T504, L504, k504, n504⟩, -, X504, ⟨Lc504, hQ504, l504, y504, z504⟩, st504⟩ := X486.privateBack hx (y := (⟨"com/example/totality/totality/core/Windows", "count", "()V"⟩ : MethodName)) hown (mvT hZ (hw _ (List.mem_of_getElem? (i := 39) rfl))) (mvT hZ (hw _ (List.mem_of_getElem? (i := 40) rfl))) (own_selP hZ (hw _ (List.mem_of_getElem? (i := 1) rfl)) (hw _ (List.mem_of_getElem? (i := 41) rfl)) (hw _ (List.mem_of_getElem? (i := 40) rfl)) (by decide)) (Cond.privateMethod_at (mvP hZ (hw _ (List.mem_of_getElem? (i := 41) rfl)) (args := #[]))) (mvT hZ (hw _ (List.mem_of_getElem? (i := 42) rfl))) (by decide) (backOf (W := 0) (rm7 l Z a0 hw [] a1 t1 s1 lo1 (al1 - (1 : Int32)) (own_put vals i v1) h486 n0 z487 f498 f499 f500 f501 Fw486 f502 f492 g_a1 ne_a1_t1) hZ (hw _ (List.mem_of_getElem? (i := 42) rfl)) (hw _ (List.mem_of_getElem? (i := 2) rfl)) (by decide) (by decide)) (g := (mkF m 108 #[.val (.ref a1), .val (.int i1), .val (.long v1), .second, .val (.long (vals i)), .second] [(.ref a1)])) rfl (by rw [hml]; rfl) (Steps.refl _) (a := a1) (by rw [e486]; exact q504) q504' (argsL := []) (rest := []) (lenOf pd_1 rfl) rfl (by show 2 * 0 + _ ≤ _; exact Nat.le_of_eq rfl) (hb hby d5_108) (fun _ _ => ⟨rfl, e486, (by decide : 0 + 0 ≤ _), (by decide : 0 + 0 ≤ _)⟩)
            dsimp only [Pt.U, Pt.locs, Pt.cells, Pt.slots] at X504 l504 y504 z504 st504 hQ504
            subst l504 y504 z504
            obtain ⟨h504, e504⟩ : ∃ z, T504.heap = z := ⟨_, rfl⟩
            rw [e504] at hQ504
            obtain ⟨rfl, N504q, K504q, F493, F494, F495, lo490, al491, F496, F497⟩ := hQ504
            have z505 : n0 ≤ h504.size := Nat.le_trans z487 K504q.1
            have N504 := Fr.app N488 N504q
            have C506 : ∀ t, Steps p.tables e below (T504.setTop (mkF m 111 #[.val (.ref a1), .val (.int i1), .val (.long v1), .second, .val (.long (vals i)), .second] [])) t → Steps p.tables e below (s₁.setTop (mkF m 0 #[.val (.ref a1), .val (.int i1), .val (.long v1), .second, .unset, .unset] [])) t := (fun t k => (S419 t (st420.trans (S421 t (S425 t (st426 t (S427 t (st428 t (S429 t (st430 t (S433 t (st435 t (S436 t (S457 t (st458 t (S459 t (S477 t (st478 t (S479 t (S481 t (st483 t (S484 t (st486 t (S503 t (st504.trans k)))))))))))))))))))))))))
            obtain ⟨fs, hr, hrun, hended, hW, hsame⟩ := X504.leave (v := none) (fun _ => rfl)
            refine ⟨_, _, pre0 _ (C506 _ ?_), hrun, hended, _, _, rfl, ?_, ⟨_, rfl⟩, hW, hsame.mono (by decide) (by decide)⟩
            · exact X504.returnOut hx Bd.returns (hb hby d5_111) hr
            · show Q_rm_set1 Z a1 i1 v1 i s1 lo1 al1 vals t1 h0 n0 _ T504.heap _
              rw [e504]
              have f507 := (f498.keep K504q)
              have f508 := (f492.keep K504q (ninS (Ne.symm ne_a1_t1) nin0))
              exact ⟨rfl, N504, z505, g_a1, f507, F493, F494, ⟨_, _, F496, F497⟩, Or.inr ⟨t1, g_t1, ne_a1_t1, F495, f508⟩⟩
          · have S509 : ∀ t, Steps p.tables e below (T486.setTop (mkF m 111 #[.val (.ref a1), .val (.int i1), .val (.long v1), .second, .val (.long (vals i)), .second] [])) t → Steps p.tables e below (T486.setTop (mkF m 104 #[.val (.ref a1), .val (.int i1), .val (.long v1), .second, .val (.long (vals i)), .second] [(.int (al1 - (1 : Int32)))])) t := by
              intro t kt
              show Steps p.tables e below (T486.setTop (mkF m 104 #[.val (.ref a1), .val (.int i1), .val (.long v1), .second, .val (.long (vals i)), .second] [(.int (al1 - (1 : Int32)))])) _
              refine XS.ifYes X486.here hx rfl (pc0 := 104) (pc' := 111) rfl (hb hby d5_104) rfl ((if0 _ _).trans (feq hc489).2) (by decide) (by decide) ?_
              exact kt
            have C510 : ∀ t, Steps p.tables e below (T486.setTop (mkF m 111 #[.val (.ref a1), .val (.int i1), .val (.long v1), .second, .val (.long (vals i)), .second] [])) t → Steps p.tables e below (s₁.setTop (mkF m 0 #[.val (.ref a1), .val (.int i1), .val (.long v1), .second, .unset, .unset] [])) t := (fun t k => (S419 t (st420.trans (S421 t (S425 t (st426 t (S427 t (st428 t (S429 t (st430 t (S433 t (st435 t (S436 t (S457 t (st458 t (S459 t (S477 t (st478 t (S479 t (S481 t (st483 t (S484 t (st486 t (S509 t k))))))))))))))))))))))))
            obtain ⟨fs, hr, hrun, hended, hW, hsame⟩ := X486.leave (v := none) (fun _ => rfl)
            refine ⟨_, _, pre0 _ (C510 _ ?_), hrun, hended, _, _, rfl, ?_, ⟨_, rfl⟩, hW, hsame.mono (by decide) (by decide)⟩
            · exact X486.returnOut hx Bd.returns (hb hby d5_111) hr
            · show Q_rm_set1 Z a1 i1 v1 i s1 lo1 al1 vals t1 h0 n0 _ T486.heap _
              rw [e486]
              have f511 := (f485.wr W486)
              have f512 := ((F413.other W430 (Or.inl ne_a1_t1)).other W486 (Or.inr (slot_ne (Or.inr (hw _ (List.mem_of_getElem? (i := 10) rfl))) (Or.inl (hw _ (List.mem_of_getElem? (i := 16) rfl))) (by decide) (t := .int) (t' := .int) (by decide) (by decide))))
              have f513 := ((F414.other W430 (Or.inl ne_a1_t1)).other W486 (Or.inr (slot_ne (Or.inr (hw _ (List.mem_of_getElem? (i := 12) rfl))) (Or.inl (hw _ (List.mem_of_getElem? (i := 16) rfl))) (by decide) (t := .int) (t' := .int) (by decide) (by decide))))
              have f514 := (f434.other W486 (Or.inr (slot_ne (Or.inl (hw _ (List.mem_of_getElem? (i := 14) rfl))) (Or.inl (hw _ (List.mem_of_getElem? (i := 16) rfl))) (by decide) (t := .long) (t' := .int) (by decide) (by decide))))
              have f515 := ((F417.other W430 (Or.inl ne_a1_t1)).other W486 (Or.inr (slot_ne (Or.inl (hw _ (List.mem_of_getElem? (i := 24) rfl))) (Or.inl (hw _ (List.mem_of_getElem? (i := 16) rfl))) (by decide) (t := (.array .long)) (t' := .int) (by decide) (by decide))))
              have f516 := (V430'.other W486 (Ne.symm ne_a1_t1))
              exact ⟨rfl, N488, z487, g_a1, f511, f512, f513, ⟨_, _, f514, Fw486⟩, Or.inr ⟨t1, g_t1, ne_a1_t1, f515, f516⟩⟩
        · have S517 : ∀ t, Steps p.tables e below (T478.setTop (mkF m 111 #[.val (.ref a1), .val (.int i1), .val (.long v1), .second, .val (.long (vals i)), .second] [])) t → Steps p.tables e below (T478.setTop (mkF m 90 #[.val (.ref a1), .val (.int i1), .val (.long v1), .second, .val (.long (vals i)), .second] [(.int (lcmpW (vals i) lo1))])) t := by
            intro t kt
            show Steps p.tables e below (T478.setTop (mkF m 90 #[.val (.ref a1), .val (.int i1), .val (.long v1), .second, .val (.long (vals i)), .second] [(.int (lcmpW (vals i) lo1))])) _
            refine XS.ifYes X478.here hx rfl (pc0 := 90) (pc' := 111) rfl (hb hby d5_90) rfl ((if0 _ _).trans (feq (fun q => hc480 ((lw_eq (vals i) lo1).mp q))).2) (by decide) (by decide) ?_
            exact kt
          have C518 : ∀ t, Steps p.tables e below (T478.setTop (mkF m 111 #[.val (.ref a1), .val (.int i1), .val (.long v1), .second, .val (.long (vals i)), .second] [])) t → Steps p.tables e below (s₁.setTop (mkF m 0 #[.val (.ref a1), .val (.int i1), .val (.long v1), .second, .unset, .unset] [])) t := (fun t k => (S419 t (st420.trans (S421 t (S425 t (st426 t (S427 t (st428 t (S429 t (st430 t (S433 t (st435 t (S436 t (S457 t (st458 t (S459 t (S477 t (st478 t (S479 t (S517 t k))))))))))))))))))))
          obtain ⟨fs, hr, hrun, hended, hW, hsame⟩ := X478.leave (v := none) (fun _ => rfl)
          refine ⟨_, _, pre0 _ (C518 _ ?_), hrun, hended, _, _, rfl, ?_, ⟨_, rfl⟩, hW, hsame.mono (by decide) (by decide)⟩
          · exact X478.returnOut hx Bd.returns (hb hby d5_111) hr
          · show Q_rm_set1 Z a1 i1 v1 i s1 lo1 al1 vals t1 h0 n0 _ T478.heap _
            rw [e478]
            have f519 := (F412.wr W430)
            have f520 := (F413.other W430 (Or.inl ne_a1_t1))
            have f521 := (F414.other W430 (Or.inl ne_a1_t1))
            have f522 := (F416.other W430 (Or.inl ne_a1_t1))
            have f523 := (F417.other W430 (Or.inl ne_a1_t1))
            exact ⟨rfl, N432, z431, g_a1, f519, f520, f521, ⟨_, _, f434, f522⟩, Or.inr ⟨t1, g_t1, ne_a1_t1, f523, V430'⟩⟩

def Q_set (Z : State) (a1 : Addr) (i1 : Int32) (v1 : Int64) (i : Nat) (s1 : Int32) (vals : Nat → Int64) (h0 : Heap) (n0 : Nat) (v : Option Value) (h : Heap) (L : List Loc) : Prop := v = none ∧ Fr n0 L ∧ n0 ≤ h.size ∧ own_WS Z h n0 a1 s1 (own_put vals i v1)
theorem rm_set (l : Launch) (Z : State) (a0 : Array Value) (hw : ∀ d ∈ tables_1, d.before a0 Z = true) (ws : List Jvm.Cond) (a1 : Addr) (i1 : Int32) (v1 : Int64) (i : Nat) (s1 : Int32) (vals : Nat → Int64) (h0 : Heap) (n0 : Nat) (Z0 : n0 ≤ h0.size) (H : own_WS Z h0 n0 a1 s1 vals) (hi : own_ix i1 i) :
    MetFree l (⟨"com/example/totality/totality/core/Windows", "set", "(IJ)V"⟩ : MethodName) (head1 (Jvm.Cond.code (⟨"com/example/totality/totality/core/Windows", "set", "(IJ)V"⟩ : MethodName) prog_59_method_4_code 6 none :: ws) ({ frames := 1, cells := 1, slots := 3, locals := 17 } : Room)) (fun a U => a = #[(.ref a1), (.int i1), (.long v1)] ∧ Z.Warmed39 U.vm ∧ U.heap = h0) (fun _ _ _ _ _ => True) (fun _ U o U' => ∃ v L, o = .returned v ∧ Q_set Z a1 i1 v1 i s1 vals h0 n0 v U'.heap L ∧ FrameEnd U o U' L ({ frames := 1, cells := 1, slots := 3, locals := 17 } : Room).cells ({ frames := 1, cells := 1, slots := 3, locals := 17 } : Room).slots) := by
  have H' := H
  obtain ⟨g, E, N, S, ⟨lo, al, F1, F2⟩, ⟨q, z⟩ | ⟨t, gt, ne, q, A⟩⟩ := H
  · exact rm_set0 l Z a0 hw ws a1 i1 v1 i s1 lo al vals h0 n0 Z0 E N S F1 F2 q g H' hi z
  · exact rm_set1 l Z a0 hw ws a1 i1 v1 i s1 lo al vals t h0 n0 Z0 E N S F1 F2 q A g gt ne H' hi
theorem ef_rm0 (m : MethodId) (x0 : Int32) (x1 : Int32) (x2 : Int64) (x3 : Int32) (x4 : Int64) (x5 : Int32) : entryFrame m #[(.int x0), (.int x1), (.long x2), (.int x3), (.long x4), (.int x5)] maxLocals = mkF m 0 #[.val (.int x0), .val (.int x1), .val (.long x2), .second, .val (.int x3), .val (.long x4), .second, .val (.int x5), .unset, .unset, .unset, .unset, .unset, .unset, .unset] [] := by first | (simp [entryFrame, mkF, argsToLocals, Value.category, maxLocals]; done) | rfl
def Q_rm0 (Z : State) (k1 : Int32) (i1 : Int32) (v1 : Int64) (j1 : Int32) (w1 : Int64) (q1 : Int32) (h0 : Heap) (n0 : Nat) (v : Option Value) (h : Heap) (L : List Loc) : Prop := v = some (.int 1) ∧ Fr n0 L
set_option maxRecDepth 65536 in
set_option maxHeartbeats 40000000 in
theorem rm0 (l : Launch) (Z : State) (a0 : Array Value) (hw : ∀ d ∈ tables_1, d.before a0 Z = true) (ws : List Jvm.Cond) (k1 : Int32) (i1 : Int32) (v1 : Int64) (j1 : Int32) (w1 : Int64) (q1 : Int32) (h0 : Heap) (n0 : Nat) (Z0 : n0 ≤ h0.size)  :
    MetFree l x (head1 (Jvm.Cond.code x code maxLocals ret :: ws) room_1) (fun a U => a = #[(.int k1), (.int i1), (.long v1), (.int j1), (.long w1), (.int q1)] ∧ Z.Warmed39 U.vm ∧ U.heap = h0) (fun _ _ _ _ _ => True) (fun _ U o U' => ∃ v L, o = .returned v ∧ Q_rm0 Z k1 i1 v1 j1 w1 q1 h0 n0 v U'.heap L ∧ FrameEnd U o U' L room_1.cells room_1.slots) := by
  refine MetFree.of_bodySF (plainFor_of_name pn_1) hisR ?_
  intro p e s m args below meth c s₁ Bd hml0 hP hK
  obtain ⟨rfl, hZ, hh⟩ := hP
  have hx := Bd.exec
  have hby := Bd.bytes
  have hml : c.maxLocals = 15 := hml0
  have hown : s.vm.findClass "com/example/totality/totality/core/WindowsStartPinLaw" = some m.cls := findClass_of_methodNamed Bd.named
  have hnm := (name_of_methodNamed Bd.named Bd.method).1
  have X0 : Stand p l e room_1 s m #[(.int k1), (.int i1), (.long v1), (.int j1), (.long w1), (.int q1)] below meth c s₁ [] 0 0 := Stand.of_body Bd
  have e0 : s₁.heap = h0 := by rw [← hh, Bd.state]; rfl
  have N0 := Fr.nil n0
  have pre0 : ∀ t, Steps p.tables e below (s₁.setTop (mkF m 0 #[.val (.int k1), .val (.int i1), .val (.long v1), .second, .val (.int j1), .val (.long w1), .second, .val (.int q1), .unset, .unset, .unset, .unset, .unset, .unset, .unset] [])) t → Steps p.tables e below (s₁.setTop (entryFrame m #[(.int k1), (.int i1), (.long v1), (.int j1), (.long w1), (.int q1)] maxLocals)) t := fun t k => castTop (ef_rm0 m k1 i1 v1 j1 w1 q1) k
  have S525 : ∀ t, Steps p.tables e below (s₁.setTop (mkF m 3 #[.val (.int k1), .val (.int i1), .val (.long v1), .second, .val (.int j1), .val (.long w1), .second, .val (.int q1), .unset, .unset, .unset, .unset, .unset, .unset, .unset] [(.int (k1 &&& (3 : Int32)))])) t → Steps p.tables e below (s₁.setTop (mkF m 0 #[.val (.int k1), .val (.int i1), .val (.long v1), .second, .val (.int j1), .val (.long w1), .second, .val (.int q1), .unset, .unset, .unset, .unset, .unset, .unset, .unset] [])) t := by
    intro t kt
    show Steps p.tables e below (s₁.setTop (mkF m 0 #[.val (.int k1), .val (.int i1), .val (.long v1), .second, .val (.int j1), .val (.long w1), .second, .val (.int q1), .unset, .unset, .unset, .unset, .unset, .unset, .unset] [])) _
    refine XS.iloadN X0.here hx rfl (hb hby at_0) rfl ?_
    show Steps p.tables e below (s₁.setTop (mkF m 1 #[.val (.int k1), .val (.int i1), .val (.long v1), .second, .val (.int j1), .val (.long w1), .second, .val (.int q1), .unset, .unset, .unset, .unset, .unset, .unset, .unset] [(.int k1)])) _
    refine XS.iconst X0.here hx rfl (hb hby at_1) ?_
    show Steps p.tables e below (s₁.setTop (mkF m 2 #[.val (.int k1), .val (.int i1), .val (.long v1), .second, .val (.int j1), .val (.long w1), .second, .val (.int q1), .unset, .unset, .unset, .unset, .unset, .unset, .unset] [(.int (3 : Int32)), (.int k1)])) _
    refine XS.iand X0.here hx rfl (hb hby at_2) rfl ?_
    exact kt
  obtain ⟨v524, hv524⟩ : ∃ z : Int32, z = (k1 &&& (3 : Int32)) := ⟨_, rfl⟩
  have S526 : ∀ t, Steps p.tables e below (s₁.setTop (mkF m 3 #[.val (.int k1), .val (.int i1), .val (.long v1), .second, .val (.int j1), .val (.long w1), .second, .val (.int q1), .unset, .unset, .unset, .unset, .unset, .unset, .unset] [(.int v524)])) t → Steps p.tables e below (s₁.setTop (mkF m 3 #[.val (.int k1), .val (.int i1), .val (.long v1), .second, .val (.int j1), .val (.long w1), .second, .val (.int q1), .unset, .unset, .unset, .unset, .unset, .unset, .unset] [(.int (k1 &&& (3 : Int32)))])) t := fun t k => by rw [hv524.symm]; exact k
  have S527 : ∀ t, Steps p.tables e below (s₁.setTop (mkF m 8 #[.val (.int k1), .val (.int i1), .val (.long v1), .second, .val (.int j1), .val (.long w1), .second, .val (.int q1), .val (.int v524), .unset, .unset, .unset, .unset, .unset, .unset] [(.int (3 : Int32)), (.int v524)])) t → Steps p.tables e below (s₁.setTop (mkF m 3 #[.val (.int k1), .val (.int i1), .val (.long v1), .second, .val (.int j1), .val (.long w1), .second, .val (.int q1), .unset, .unset, .unset, .unset, .unset, .unset, .unset] [(.int v524)])) t := by
    intro t kt
    show Steps p.tables e below (s₁.setTop (mkF m 3 #[.val (.int k1), .val (.int i1), .val (.long v1), .second, .val (.int j1), .val (.long w1), .second, .val (.int q1), .unset, .unset, .unset, .unset, .unset, .unset, .unset] [(.int v524)])) _
    refine XS.istore X0.here hx rfl (hb hby at_3) rfl (l' := #[.val (.int k1), .val (.int i1), .val (.long v1), .second, .val (.int j1), .val (.long w1), .second, .val (.int q1), .val (.int v524), .unset, .unset, .unset, .unset, .unset, .unset]) rfl ?_
    show Steps p.tables e below (s₁.setTop (mkF m 5 #[.val (.int k1), .val (.int i1), .val (.long v1), .second, .val (.int j1), .val (.long w1), .second, .val (.int q1), .val (.int v524), .unset, .unset, .unset, .unset, .unset, .unset] [])) _
    refine XS.iload X0.here hx rfl (hb hby at_5) rfl ?_
    show Steps p.tables e below (s₁.setTop (mkF m 7 #[.val (.int k1), .val (.int i1), .val (.long v1), .second, .val (.int j1), .val (.long w1), .second, .val (.int q1), .val (.int v524), .unset, .unset, .unset, .unset, .unset, .unset] [(.int v524)])) _
    refine XS.iconst X0.here hx rfl (hb hby at_7) ?_
    exact kt
  obtain ⟨v530, hv530⟩ : ∃ z : Int32, z = (if v524 = (3 : Int32) then (-1 : Int32) else v524) := ⟨_, rfl⟩
  have S529 : ∀ t, Steps p.tables e below (s₁.setTop (mkF m 17 #[.val (.int k1), .val (.int i1), .val (.long v1), .second, .val (.int j1), .val (.long w1), .second, .val (.int q1), .val (.int v524), .unset, .unset, .unset, .unset, .unset, .unset] [(.int v530)])) t → Steps p.tables e below (s₁.setTop (mkF m 8 #[.val (.int k1), .val (.int i1), .val (.long v1), .second, .val (.int j1), .val (.long w1), .second, .val (.int q1), .val (.int v524), .unset, .unset, .unset, .unset, .unset, .unset] [(.int (3 : Int32)), (.int v524)])) t := by
    intro t kt
    subst hv530
    by_cases hc528 : v524 = (3 : Int32)
    · simp only [if_pos hc528] at kt
      show Steps p.tables e below (s₁.setTop (mkF m 8 #[.val (.int k1), .val (.int i1), .val (.long v1), .second, .val (.int j1), .val (.long w1), .second, .val (.int q1), .val (.int v524), .unset, .unset, .unset, .unset, .unset, .unset] [(.int (3 : Int32)), (.int v524)])) _
      refine XS.icmpNo X0.here hx rfl (hb hby at_8) rfl (teq hc528).2 ?_
      show Steps p.tables e below (s₁.setTop (mkF m 11 #[.val (.int k1), .val (.int i1), .val (.long v1), .second, .val (.int j1), .val (.long w1), .second, .val (.int q1), .val (.int v524), .unset, .unset, .unset, .unset, .unset, .unset] [])) _
      refine XS.iconst X0.here hx rfl (hb hby at_11) ?_
      show Steps p.tables e below (s₁.setTop (mkF m 12 #[.val (.int k1), .val (.int i1), .val (.long v1), .second, .val (.int j1), .val (.long w1), .second, .val (.int q1), .val (.int v524), .unset, .unset, .unset, .unset, .unset, .unset] [(.int (-1 : Int32))])) _
      refine XS.goto X0.here hx rfl (pc0 := 12) (pc' := 17) rfl (hb hby at_12) (by decide) (by decide) ?_
      exact kt
    · simp only [if_neg hc528] at kt
      show Steps p.tables e below (s₁.setTop (mkF m 8 #[.val (.int k1), .val (.int i1), .val (.long v1), .second, .val (.int j1), .val (.long w1), .second, .val (.int q1), .val (.int v524), .unset, .unset, .unset, .unset, .unset, .unset] [(.int (3 : Int32)), (.int v524)])) _
      refine XS.icmpYes X0.here hx rfl (pc0 := 8) (pc' := 15) rfl (hb hby at_8) rfl (feq hc528).2 (by decide) (by decide) ?_
      show Steps p.tables e below (s₁.setTop (mkF m 15 #[.val (.int k1), .val (.int i1), .val (.long v1), .second, .val (.int j1), .val (.long w1), .second, .val (.int q1), .val (.int v524), .unset, .unset, .unset, .unset, .unset, .unset] [])) _
      refine XS.iload X0.here hx rfl (hb hby at_15) rfl ?_
      exact kt
  have hself : own_self v530 := own_self_in _ _ _ hv524 hv530
  have S531 : ∀ t, Steps p.tables e below (s₁.setTop (mkF m 19 #[.val (.int k1), .val (.int i1), .val (.long v1), .second, .val (.int j1), .val (.long w1), .second, .val (.int q1), .val (.int v524), .val (.int v530), .unset, .unset, .unset, .unset, .unset] [])) t → Steps p.tables e below (s₁.setTop (mkF m 17 #[.val (.int k1), .val (.int i1), .val (.long v1), .second, .val (.int j1), .val (.long w1), .second, .val (.int q1), .val (.int v524), .unset, .unset, .unset, .unset, .unset, .unset] [(.int v530)])) t := by
    intro t kt
    show Steps p.tables e below (s₁.setTop (mkF m 17 #[.val (.int k1), .val (.int i1), .val (.long v1), .second, .val (.int j1), .val (.long w1), .second, .val (.int q1), .val (.int v524), .unset, .unset, .unset, .unset, .unset, .unset] [(.int v530)])) _
    refine XS.istore X0.here hx rfl (hb hby at_17) rfl (l' := #[.val (.int k1), .val (.int i1), .val (.long v1), .second, .val (.int j1), .val (.long w1), .second, .val (.int q1), .val (.int v524), .val (.int v530), .unset, .unset, .unset, .unset, .unset]) rfl ?_
    exact kt
  obtain ⟨T532, h532, X532, e532, E532, A532, D532, -, st532⟩ := newO X0 hx hZ hown (hw _ (List.mem_of_getElem? (i := 0) rfl)) (hw _ (List.mem_of_getElem? (i := 1) rfl)) (hw _ (List.mem_of_getElem? (i := 2) rfl)) e0 (g := (mkF m 19 #[.val (.int k1), .val (.int i1), .val (.long v1), .second, .val (.int j1), .val (.long w1), .second, .val (.int q1), .val (.int v524), .val (.int v530), .unset, .unset, .unset, .unset, .unset] [])) rfl (hb hby at_19) (by decide) (by decide)
  obtain ⟨b532, g532⟩ : ∃ z, z = h0.size := ⟨_, rfl⟩
  rw [← g532] at A532 D532 st532
  have g_b532 : n0 ≤ b532 := Nat.le_trans Z0 (Nat.le_of_eq g532.symm)
  have K533 := (Keep.refl h0 [])
  have sz_b532 : h0.size ≤ b532 := Nat.le_trans K533.1 (Nat.le_of_eq g532.symm)
  have z534 : n0 ≤ h532.size := Nat.le_trans Z0 E532.1
  have F535 : Fld Z h532 b532 "com/example/totality/totality/core/Windows" "nodes" "I" (.int (0 : Int32)) := D532 (Or.inr (hw _ (List.mem_of_getElem? (i := 10) rfl))) (ty := .int) (by decide)
  have F536 : Fld Z h532 b532 "com/example/totality/totality/core/Windows" "self" "I" (.int (0 : Int32)) := D532 (Or.inr (hw _ (List.mem_of_getElem? (i := 12) rfl))) (ty := .int) (by decide)
  have F537 : Fld Z h532 b532 "com/example/totality/totality/core/Windows" "lowest" "J" (.long (0 : Int64)) := D532 (Or.inl (hw _ (List.mem_of_getElem? (i := 14) rfl))) (ty := .long) (by decide)
  have F538 : Fld Z h532 b532 "com/example/totality/totality/core/Windows" "atLowest" "I" (.int (0 : Int32)) := D532 (Or.inl (hw _ (List.mem_of_getElem? (i := 16) rfl))) (ty := .int) (by decide)
  have F539 : Fld Z h532 b532 "com/example/totality/totality/core/Windows" "starts" "[J" .null := D532 (Or.inl (hw _ (List.mem_of_getElem? (i := 24) rfl))) (ty := (.array .long)) (by decide)
  have S540 : ∀ t, Steps p.tables e below (T532.setTop (mkF m 26 #[.val (.int k1), .val (.int i1), .val (.long v1), .second, .val (.int j1), .val (.long w1), .second, .val (.int q1), .val (.int v524), .val (.int v530), .unset, .unset, .unset, .unset, .unset] [(.int v530), (.int (3 : Int32)), (.ref b532), (.ref b532)])) t → Steps p.tables e below (T532.setTop (mkF m 22 #[.val (.int k1), .val (.int i1), .val (.long v1), .second, .val (.int j1), .val (.long w1), .second, .val (.int q1), .val (.int v524), .val (.int v530), .unset, .unset, .unset, .unset, .unset] [(.ref b532)])) t := by
    intro t kt
    show Steps p.tables e below (T532.setTop (mkF m 22 #[.val (.int k1), .val (.int i1), .val (.long v1), .second, .val (.int j1), .val (.long w1), .second, .val (.int q1), .val (.int v524), .val (.int v530), .unset, .unset, .unset, .unset, .unset] [(.ref b532)])) _
    refine XS.dup X532.here hx rfl (hb hby at_22) rfl rfl ?_
    show Steps p.tables e below (T532.setTop (mkF m 23 #[.val (.int k1), .val (.int i1), .val (.long v1), .second, .val (.int j1), .val (.long w1), .second, .val (.int q1), .val (.int v524), .val (.int v530), .unset, .unset, .unset, .unset, .unset] [(.ref b532), (.ref b532)])) _
    refine XS.iconst X532.here hx rfl (hb hby at_23) ?_
    show Steps p.tables e below (T532.setTop (mkF m 24 #[.val (.int k1), .val (.int i1), .val (.long v1), .second, .val (.int j1), .val (.long w1), .second, .val (.int q1), .val (.int v524), .val (.int v530), .unset, .unset, .unset, .unset, .unset] [(.int (3 : Int32)), (.ref b532), (.ref b532)])) _
    refine XS.iload X532.here hx rfl (hb hby at_24) rfl ?_
    exact kt
  obtain ⟨_, _, ⟨T541, L541, k541, n541⟩, -, X541, ⟨Lc541, hQ541, l541, y541, z541⟩, st541⟩ := X532.specialBack hx (y := (⟨"com/example/totality/totality/core/Windows", "<init>", "(II)V"⟩ : MethodName)) rfl hown (mvT hZ (hw _ (List.mem_of_getElem? (i := 3) rfl))) (mvT hZ (hw _ (List.mem_of_getElem? (i := 4) rfl))) (mvT hZ (hw _ (List.mem_of_getElem? (i := 5) rfl))) (by decide) (backOf (W := 1) (rm1 l Z a0 hw [] b532 v530 h532 n0 z534 A532 F535 F536 F537 F538 F539 g_b532) hZ (hw _ (List.mem_of_getElem? (i := 5) rfl)) (hw _ (List.mem_of_getElem? (i := 2) rfl)) (by decide) (by decide)) (g := (mkF m 26 #[.val (.int k1), .val (.int i1), .val (.long v1), .second, .val (.int j1), .val (.long w1), .second, .val (.int q1), .val (.int v524), .val (.int v530), .unset, .unset, .unset, .unset, .unset] [(.int v530), (.int (3 : Int32)), (.ref b532), (.ref b532)])) rfl (by rw [hml]; rfl) (Steps.refl _) (a := b532) (argsL := [(.int (3 : Int32)), (.int v530)]) (rest := [(.ref b532)]) (lenOf pd_2 rfl) rfl (by show 2 * 0 + _ ≤ _; exact Nat.le_of_eq rfl) (hb hby at_26) (fun _ _ => ⟨rfl, e532, (by decide : 1 + 0 ≤ _), (by decide : 5 + 0 ≤ _)⟩)
  dsimp only [Pt.U, Pt.locs, Pt.cells, Pt.slots] at X541 l541 y541 z541 st541 hQ541
  subst l541 y541 z541
  obtain ⟨h541, e541⟩ : ∃ z, T541.heap = z := ⟨_, rfl⟩
  rw [e541] at hQ541
  obtain ⟨rfl, N541q, K541q, hw0⟩ := hQ541
  have z542 : n0 ≤ h541.size := Nat.le_trans z534 K541q.1
  have N541 := Fr.app N0 N541q
  have S544 : ∀ t, Steps p.tables e below (T541.setTop (mkF m 38 #[.val (.int k1), .val (.int i1), .val (.long v1), .second, .val (.int j1), .val (.long w1), .second, .val (.int q1), .val (.int v524), .val (.int v530), .val (.ref b532), .unset, .unset, .unset, .unset] [(.int ((q1 &&& (2147483647 : Int32)) % (3 : Int32)))])) t → Steps p.tables e below (T541.setTop (mkF m 29 #[.val (.int k1), .val (.int i1), .val (.long v1), .second, .val (.int j1), .val (.long w1), .second, .val (.int q1), .val (.int v524), .val (.int v530), .unset, .unset, .unset, .unset, .unset] [(.ref b532)])) t := by
    intro t kt
    show Steps p.tables e below (T541.setTop (mkF m 29 #[.val (.int k1), .val (.int i1), .val (.long v1), .second, .val (.int j1), .val (.long w1), .second, .val (.int q1), .val (.int v524), .val (.int v530), .unset, .unset, .unset, .unset, .unset] [(.ref b532)])) _
    refine XS.astore X541.here hx rfl (hb hby at_29) rfl rfl (l' := #[.val (.int k1), .val (.int i1), .val (.long v1), .second, .val (.int j1), .val (.long w1), .second, .val (.int q1), .val (.int v524), .val (.int v530), .val (.ref b532), .unset, .unset, .unset, .unset]) rfl ?_
    show Steps p.tables e below (T541.setTop (mkF m 31 #[.val (.int k1), .val (.int i1), .val (.long v1), .second, .val (.int j1), .val (.long w1), .second, .val (.int q1), .val (.int v524), .val (.int v530), .val (.ref b532), .unset, .unset, .unset, .unset] [])) _
    refine XS.iload X541.here hx rfl (hb hby at_31) rfl ?_
    show Steps p.tables e below (T541.setTop (mkF m 33 #[.val (.int k1), .val (.int i1), .val (.long v1), .second, .val (.int j1), .val (.long w1), .second, .val (.int q1), .val (.int v524), .val (.int v530), .val (.ref b532), .unset, .unset, .unset, .unset] [(.int q1)])) _
    refine X541.ldcInt hx hown (mvT hZ (hw _ (List.mem_of_getElem? (i := 17) rfl))) (g := (mkF m 33 #[.val (.int k1), .val (.int i1), .val (.long v1), .second, .val (.int j1), .val (.long w1), .second, .val (.int q1), .val (.int v524), .val (.int v530), .val (.ref b532), .unset, .unset, .unset, .unset] [(.int q1)])) rfl (hb hby at_33) _ ?_
    show Steps p.tables e below (T541.setTop (mkF m 35 #[.val (.int k1), .val (.int i1), .val (.long v1), .second, .val (.int j1), .val (.long w1), .second, .val (.int q1), .val (.int v524), .val (.int v530), .val (.ref b532), .unset, .unset, .unset, .unset] [(.int (2147483647 : Int32)), (.int q1)])) _
    refine XS.iand X541.here hx rfl (hb hby at_35) rfl ?_
    show Steps p.tables e below (T541.setTop (mkF m 36 #[.val (.int k1), .val (.int i1), .val (.long v1), .second, .val (.int j1), .val (.long w1), .second, .val (.int q1), .val (.int v524), .val (.int v530), .val (.ref b532), .unset, .unset, .unset, .unset] [(.int (q1 &&& (2147483647 : Int32)))])) _
    refine XS.iconst X541.here hx rfl (hb hby at_36) ?_
    show Steps p.tables e below (T541.setTop (mkF m 37 #[.val (.int k1), .val (.int i1), .val (.long v1), .second, .val (.int j1), .val (.long w1), .second, .val (.int q1), .val (.int v524), .val (.int v530), .val (.ref b532), .unset, .unset, .unset, .unset] [(.int (3 : Int32)), (.int (q1 &&& (2147483647 : Int32)))])) _
    refine iremM X541 hx rfl (hb hby at_37) rfl (by decide) ?_
    exact kt
  obtain ⟨v543, hv543⟩ : ∃ z : Int32, z = ((q1 &&& (2147483647 : Int32)) % (3 : Int32)) := ⟨_, rfl⟩
  have S545 : ∀ t, Steps p.tables e below (T541.setTop (mkF m 38 #[.val (.int k1), .val (.int i1), .val (.long v1), .second, .val (.int j1), .val (.long w1), .second, .val (.int q1), .val (.int v524), .val (.int v530), .val (.ref b532), .unset, .unset, .unset, .unset] [(.int v543)])) t → Steps p.tables e below (T541.setTop (mkF m 38 #[.val (.int k1), .val (.int i1), .val (.long v1), .second, .val (.int j1), .val (.long w1), .second, .val (.int q1), .val (.int v524), .val (.int v530), .val (.ref b532), .unset, .unset, .unset, .unset] [(.int ((q1 &&& (2147483647 : Int32)) % (3 : Int32)))])) t := fun t k => by rw [hv543.symm]; exact k
  obtain ⟨qi, hqi⟩ := own_mod3 _ (own_mask32 q1 2147483647 (by decide)).1
  rw [← hv543] at hqi
  have S546 : ∀ t, Steps p.tables e below (T541.setTop (mkF m 44 #[.val (.int k1), .val (.int i1), .val (.long v1), .second, .val (.int j1), .val (.long w1), .second, .val (.int q1), .val (.int v524), .val (.int v530), .val (.ref b532), .val (.int v543), .unset, .unset, .unset] [(.int v543), (.ref b532)])) t → Steps p.tables e below (T541.setTop (mkF m 38 #[.val (.int k1), .val (.int i1), .val (.long v1), .second, .val (.int j1), .val (.long w1), .second, .val (.int q1), .val (.int v524), .val (.int v530), .val (.ref b532), .unset, .unset, .unset, .unset] [(.int v543)])) t := by
    intro t kt
    show Steps p.tables e below (T541.setTop (mkF m 38 #[.val (.int k1), .val (.int i1), .val (.long v1), .second, .val (.int j1), .val (.long w1), .second, .val (.int q1), .val (.int v524), .val (.int v530), .val (.ref b532), .unset, .unset, .unset, .unset] [(.int v543)])) _
    refine XS.istore X541.here hx rfl (hb hby at_38) rfl (l' := #[.val (.int k1), .val (.int i1), .val (.long v1), .second, .val (.int j1), .val (.long w1), .second, .val (.int q1), .val (.int v524), .val (.int v530), .val (.ref b532), .val (.int v543), .unset, .unset, .unset]) rfl ?_
    show Steps p.tables e below (T541.setTop (mkF m 40 #[.val (.int k1), .val (.int i1), .val (.long v1), .second, .val (.int j1), .val (.long w1), .second, .val (.int q1), .val (.int v524), .val (.int v530), .val (.ref b532), .val (.int v543), .unset, .unset, .unset] [])) _
    refine XS.aload X541.here hx rfl (hb hby at_40) rfl rfl ?_
    show Steps p.tables e below (T541.setTop (mkF m 42 #[.val (.int k1), .val (.int i1), .val (.long v1), .second, .val (.int j1), .val (.long w1), .second, .val (.int q1), .val (.int v524), .val (.int v530), .val (.ref b532), .val (.int v543), .unset, .unset, .unset] [(.ref b532)])) _
    refine XS.iload X541.here hx rfl (hb hby at_42) rfl ?_
    exact kt
  have f548 := (A532.keep K541q)
  obtain ⟨cq547, kq547, q547a, q547b, q547c⟩ := isOf hZ e541 f548
  obtain ⟨_, _, ⟨T547, L547, k547, n547⟩, -, X547, ⟨Lc547, hQ547, l547, y547, z547⟩, st547⟩ := X541.virtualBack hx (y := (⟨"com/example/totality/totality/core/Windows", "start", "(I)J"⟩ : MethodName)) (z := (⟨"com/example/totality/totality/core/Windows", "start", "(I)J"⟩ : MethodName)) hown (mvT hZ (hw _ (List.mem_of_getElem? (i := 18) rfl))) (mvT hZ (hw _ (List.mem_of_getElem? (i := 19) rfl))) (notFace_of_selects (args := #[]) (mvT hZ (hw _ (List.mem_of_getElem? (i := 21) rfl)))) (mvT hZ (hw _ (List.mem_of_getElem? (i := 21) rfl))) (mvT hZ (hw _ (List.mem_of_getElem? (i := 20) rfl))) (by decide) (backOf (W := 0) (rm_start l Z a0 hw [] b532 v543 qi v530 (fun _ => 0) h541 n0 z542 hw0 hqi) hZ (hw _ (List.mem_of_getElem? (i := 22) rfl)) (hw _ (List.mem_of_getElem? (i := 2) rfl)) (by decide) (by decide)) q547a q547c (g := (mkF m 44 #[.val (.int k1), .val (.int i1), .val (.long v1), .second, .val (.int j1), .val (.long w1), .second, .val (.int q1), .val (.int v524), .val (.int v530), .val (.ref b532), .val (.int v543), .unset, .unset, .unset] [(.int v543), (.ref b532)])) rfl (by rw [hml]; rfl) (Steps.refl _) (argsL := [(.int v543)]) (rest := []) (lenOf pd_0 rfl) rfl (by show 2 * 0 + _ ≤ _; exact Nat.le_of_eq rfl) (hb hby at_44) (fun _ _ => ⟨rfl, e541, (by decide : 1 + 0 ≤ _), (by decide : 5 + 0 ≤ _)⟩)
  dsimp only [Pt.U, Pt.locs, Pt.cells, Pt.slots] at X547 l547 y547 z547 st547 hQ547
  subst l547 y547 z547
  obtain ⟨rfl, N547q, e547⟩ := hQ547
  have N547 := Fr.app N541 N547q
  have S549 : ∀ t, Steps p.tables e below (T547.setTop (mkF m 62 #[.val (.int k1), .val (.int i1), .val (.long v1), .second, .val (.int j1), .val (.long w1), .second, .val (.int q1), .val (.int v524), .val (.int v530), .val (.ref b532), .val (.int v543), .val (.int (1 : Int32)), .unset, .unset] [(.int v530), (.int i1)])) t → Steps p.tables e below (T547.setTop (mkF m 47 #[.val (.int k1), .val (.int i1), .val (.long v1), .second, .val (.int j1), .val (.long w1), .second, .val (.int q1), .val (.int v524), .val (.int v530), .val (.ref b532), .val (.int v543), .unset, .unset, .unset] [(.long (0 : Int64))])) t := by
    intro t kt
    show Steps p.tables e below (T547.setTop (mkF m 47 #[.val (.int k1), .val (.int i1), .val (.long v1), .second, .val (.int j1), .val (.long w1), .second, .val (.int q1), .val (.int v524), .val (.int v530), .val (.ref b532), .val (.int v543), .unset, .unset, .unset] [(.long (0 : Int64))])) _
    refine XS.lconst X547.here hx rfl (hb hby at_47) ?_
    show Steps p.tables e below (T547.setTop (mkF m 48 #[.val (.int k1), .val (.int i1), .val (.long v1), .second, .val (.int j1), .val (.long w1), .second, .val (.int q1), .val (.int v524), .val (.int v530), .val (.ref b532), .val (.int v543), .unset, .unset, .unset] [(.long (0 : Int64)), (.long (0 : Int64))])) _
    refine XS.lcmp X547.here hx rfl (hb hby at_48) rfl ?_
    show Steps p.tables e below (T547.setTop (mkF m 49 #[.val (.int k1), .val (.int i1), .val (.long v1), .second, .val (.int j1), .val (.long w1), .second, .val (.int q1), .val (.int v524), .val (.int v530), .val (.ref b532), .val (.int v543), .unset, .unset, .unset] [(.int (lcmpW (0 : Int64) (0 : Int64)))])) _
    refine XS.ifNo X547.here hx rfl (hb hby at_49) rfl ((if0 _ _).trans (teq ((lw_eq (0 : Int64) (0 : Int64)).mpr rfl)).2) ?_
    show Steps p.tables e below (T547.setTop (mkF m 52 #[.val (.int k1), .val (.int i1), .val (.long v1), .second, .val (.int j1), .val (.long w1), .second, .val (.int q1), .val (.int v524), .val (.int v530), .val (.ref b532), .val (.int v543), .unset, .unset, .unset] [])) _
    refine XS.iconst X547.here hx rfl (hb hby at_52) ?_
    show Steps p.tables e below (T547.setTop (mkF m 53 #[.val (.int k1), .val (.int i1), .val (.long v1), .second, .val (.int j1), .val (.long w1), .second, .val (.int q1), .val (.int v524), .val (.int v530), .val (.ref b532), .val (.int v543), .unset, .unset, .unset] [(.int (1 : Int32))])) _
    refine XS.goto X547.here hx rfl (pc0 := 53) (pc' := 57) rfl (hb hby at_53) (by decide) (by decide) ?_
    show Steps p.tables e below (T547.setTop (mkF m 57 #[.val (.int k1), .val (.int i1), .val (.long v1), .second, .val (.int j1), .val (.long w1), .second, .val (.int q1), .val (.int v524), .val (.int v530), .val (.ref b532), .val (.int v543), .unset, .unset, .unset] [(.int (1 : Int32))])) _
    refine XS.istore X547.here hx rfl (hb hby at_57) rfl (l' := #[.val (.int k1), .val (.int i1), .val (.long v1), .second, .val (.int j1), .val (.long w1), .second, .val (.int q1), .val (.int v524), .val (.int v530), .val (.ref b532), .val (.int v543), .val (.int (1 : Int32)), .unset, .unset]) rfl ?_
    show Steps p.tables e below (T547.setTop (mkF m 59 #[.val (.int k1), .val (.int i1), .val (.long v1), .second, .val (.int j1), .val (.long w1), .second, .val (.int q1), .val (.int v524), .val (.int v530), .val (.ref b532), .val (.int v543), .val (.int (1 : Int32)), .unset, .unset] [])) _
    refine XS.iloadN X547.here hx rfl (hb hby at_59) rfl ?_
    show Steps p.tables e below (T547.setTop (mkF m 60 #[.val (.int k1), .val (.int i1), .val (.long v1), .second, .val (.int j1), .val (.long w1), .second, .val (.int q1), .val (.int v524), .val (.int v530), .val (.ref b532), .val (.int v543), .val (.int (1 : Int32)), .unset, .unset] [(.int i1)])) _
    refine XS.iload X547.here hx rfl (hb hby at_60) rfl ?_
    exact kt
  obtain ⟨_, _, ⟨T550, L550, k550, n550⟩, -, X550, ⟨Lc550, hQ550, l550, y550, z550⟩, st550⟩ := Jvm.LawKit.callS X547 hx (y := (⟨"com/example/totality/totality/core/WindowsStartPinLaw", "pick", "(II)I"⟩ : MethodName)) hown (mvT hZ (hw _ (List.mem_of_getElem? (i := 25) rfl))) (mvT hZ (hw _ (List.mem_of_getElem? (i := 26) rfl))) (mvT hZ (hw _ (List.mem_of_getElem? (i := 27) rfl))) (mvT hZ (hw _ (List.mem_of_getElem? (i := 28) rfl))) (by decide) (backOf (W := 0) (rm4 l Z a0 hw [] i1 v530 h541 n0 z542 ) hZ (hw _ (List.mem_of_getElem? (i := 28) rfl)) (hw _ (List.mem_of_getElem? (i := 27) rfl)) (by decide) (by decide)) (g := (mkF m 62 #[.val (.int k1), .val (.int i1), .val (.long v1), .second, .val (.int j1), .val (.long w1), .second, .val (.int q1), .val (.int v524), .val (.int v530), .val (.ref b532), .val (.int v543), .val (.int (1 : Int32)), .unset, .unset] [(.int v530), (.int i1)])) rfl (by rw [hml]; rfl) (argsL := [(.int i1), (.int v530)]) (rest := []) (lenOf pd_3 rfl) rfl (by show 2 * 0 + _ ≤ _; exact Nat.le_of_eq rfl) (hb hby at_62) (fun _ _ => ⟨rfl, e547, (by decide : 1 + 0 ≤ _), (by decide : 5 + 0 ≤ _)⟩)
  dsimp only [Pt.U, Pt.locs, Pt.cells, Pt.slots] at X550 l550 y550 z550 st550 hQ550
  subst l550 y550 z550
  obtain ⟨rfl, N550q, e550⟩ := hQ550
  have N550 := Fr.app N547 N550q
  obtain ⟨v551, hv551⟩ : ∃ z : Int32, z = (own_pick i1 v530) := ⟨_, rfl⟩
  have S552 : ∀ t, Steps p.tables e below (T550.setTop (mkF m 65 #[.val (.int k1), .val (.int i1), .val (.long v1), .second, .val (.int j1), .val (.long w1), .second, .val (.int q1), .val (.int v524), .val (.int v530), .val (.ref b532), .val (.int v543), .val (.int (1 : Int32)), .unset, .unset] [(.int v551)])) t → Steps p.tables e below (T550.setTop (mkF m 65 #[.val (.int k1), .val (.int i1), .val (.long v1), .second, .val (.int j1), .val (.long w1), .second, .val (.int q1), .val (.int v524), .val (.int v530), .val (.ref b532), .val (.int v543), .val (.int (1 : Int32)), .unset, .unset] [(.int (own_pick i1 v530))])) t := fun t k => by rw [hv551.symm]; exact k
  have S553 : ∀ t, Steps p.tables e below (T550.setTop (mkF m 71 #[.val (.int k1), .val (.int i1), .val (.long v1), .second, .val (.int j1), .val (.long w1), .second, .val (.int q1), .val (.int v524), .val (.int v530), .val (.ref b532), .val (.int v543), .val (.int (1 : Int32)), .val (.int v551), .unset] [(.int v530), (.int j1)])) t → Steps p.tables e below (T550.setTop (mkF m 65 #[.val (.int k1), .val (.int i1), .val (.long v1), .second, .val (.int j1), .val (.long w1), .second, .val (.int q1), .val (.int v524), .val (.int v530), .val (.ref b532), .val (.int v543), .val (.int (1 : Int32)), .unset, .unset] [(.int v551)])) t := by
    intro t kt
    show Steps p.tables e below (T550.setTop (mkF m 65 #[.val (.int k1), .val (.int i1), .val (.long v1), .second, .val (.int j1), .val (.long w1), .second, .val (.int q1), .val (.int v524), .val (.int v530), .val (.ref b532), .val (.int v543), .val (.int (1 : Int32)), .unset, .unset] [(.int v551)])) _
    refine XS.istore X550.here hx rfl (hb hby at_65) rfl (l' := #[.val (.int k1), .val (.int i1), .val (.long v1), .second, .val (.int j1), .val (.long w1), .second, .val (.int q1), .val (.int v524), .val (.int v530), .val (.ref b532), .val (.int v543), .val (.int (1 : Int32)), .val (.int v551), .unset]) rfl ?_
    show Steps p.tables e below (T550.setTop (mkF m 67 #[.val (.int k1), .val (.int i1), .val (.long v1), .second, .val (.int j1), .val (.long w1), .second, .val (.int q1), .val (.int v524), .val (.int v530), .val (.ref b532), .val (.int v543), .val (.int (1 : Int32)), .val (.int v551), .unset] [])) _
    refine XS.iload X550.here hx rfl (hb hby at_67) rfl ?_
    show Steps p.tables e below (T550.setTop (mkF m 69 #[.val (.int k1), .val (.int i1), .val (.long v1), .second, .val (.int j1), .val (.long w1), .second, .val (.int q1), .val (.int v524), .val (.int v530), .val (.ref b532), .val (.int v543), .val (.int (1 : Int32)), .val (.int v551), .unset] [(.int j1)])) _
    refine XS.iload X550.here hx rfl (hb hby at_69) rfl ?_
    exact kt
  obtain ⟨_, _, ⟨T554, L554, k554, n554⟩, -, X554, ⟨Lc554, hQ554, l554, y554, z554⟩, st554⟩ := Jvm.LawKit.callS X550 hx (y := (⟨"com/example/totality/totality/core/WindowsStartPinLaw", "pick", "(II)I"⟩ : MethodName)) hown (mvT hZ (hw _ (List.mem_of_getElem? (i := 25) rfl))) (mvT hZ (hw _ (List.mem_of_getElem? (i := 26) rfl))) (mvT hZ (hw _ (List.mem_of_getElem? (i := 27) rfl))) (mvT hZ (hw _ (List.mem_of_getElem? (i := 28) rfl))) (by decide) (backOf (W := 0) (rm4 l Z a0 hw [] j1 v530 h541 n0 z542 ) hZ (hw _ (List.mem_of_getElem? (i := 28) rfl)) (hw _ (List.mem_of_getElem? (i := 27) rfl)) (by decide) (by decide)) (g := (mkF m 71 #[.val (.int k1), .val (.int i1), .val (.long v1), .second, .val (.int j1), .val (.long w1), .second, .val (.int q1), .val (.int v524), .val (.int v530), .val (.ref b532), .val (.int v543), .val (.int (1 : Int32)), .val (.int v551), .unset] [(.int v530), (.int j1)])) rfl (by rw [hml]; rfl) (argsL := [(.int j1), (.int v530)]) (rest := []) (lenOf pd_3 rfl) rfl (by show 2 * 0 + _ ≤ _; exact Nat.le_of_eq rfl) (hb hby at_71) (fun _ _ => ⟨rfl, e550, (by decide : 1 + 0 ≤ _), (by decide : 5 + 0 ≤ _)⟩)
  dsimp only [Pt.U, Pt.locs, Pt.cells, Pt.slots] at X554 l554 y554 z554 st554 hQ554
  subst l554 y554 z554
  obtain ⟨rfl, N554q, e554⟩ := hQ554
  have N554 := Fr.app N550 N554q
  obtain ⟨v555, hv555⟩ : ∃ z : Int32, z = (own_pick j1 v530) := ⟨_, rfl⟩
  have S556 : ∀ t, Steps p.tables e below (T554.setTop (mkF m 74 #[.val (.int k1), .val (.int i1), .val (.long v1), .second, .val (.int j1), .val (.long w1), .second, .val (.int q1), .val (.int v524), .val (.int v530), .val (.ref b532), .val (.int v543), .val (.int (1 : Int32)), .val (.int v551), .unset] [(.int v555)])) t → Steps p.tables e below (T554.setTop (mkF m 74 #[.val (.int k1), .val (.int i1), .val (.long v1), .second, .val (.int j1), .val (.long w1), .second, .val (.int q1), .val (.int v524), .val (.int v530), .val (.ref b532), .val (.int v543), .val (.int (1 : Int32)), .val (.int v551), .unset] [(.int (own_pick j1 v530))])) t := fun t k => by rw [hv555.symm]; exact k
  obtain ⟨ai, hai⟩ := own_pick_in i1 v530 hself
  rw [← hv551] at hai
  obtain ⟨bi, hbi⟩ := own_pick_in j1 v530 hself
  rw [← hv555] at hbi
  have Ehw557 := hw0.2.1
  have S558 : ∀ t, Steps p.tables e below (T554.setTop (mkF m 81 #[.val (.int k1), .val (.int i1), .val (.long v1), .second, .val (.int j1), .val (.long w1), .second, .val (.int q1), .val (.int v524), .val (.int v530), .val (.ref b532), .val (.int v543), .val (.int (1 : Int32)), .val (.int v551), .val (.int v555)] [(.long v1), (.int v551), (.ref b532)])) t → Steps p.tables e below (T554.setTop (mkF m 74 #[.val (.int k1), .val (.int i1), .val (.long v1), .second, .val (.int j1), .val (.long w1), .second, .val (.int q1), .val (.int v524), .val (.int v530), .val (.ref b532), .val (.int v543), .val (.int (1 : Int32)), .val (.int v551), .unset] [(.int v555)])) t := by
    intro t kt
    show Steps p.tables e below (T554.setTop (mkF m 74 #[.val (.int k1), .val (.int i1), .val (.long v1), .second, .val (.int j1), .val (.long w1), .second, .val (.int q1), .val (.int v524), .val (.int v530), .val (.ref b532), .val (.int v543), .val (.int (1 : Int32)), .val (.int v551), .unset] [(.int v555)])) _
    refine XS.istore X554.here hx rfl (hb hby at_74) rfl (l' := #[.val (.int k1), .val (.int i1), .val (.long v1), .second, .val (.int j1), .val (.long w1), .second, .val (.int q1), .val (.int v524), .val (.int v530), .val (.ref b532), .val (.int v543), .val (.int (1 : Int32)), .val (.int v551), .val (.int v555)]) rfl ?_
    show Steps p.tables e below (T554.setTop (mkF m 76 #[.val (.int k1), .val (.int i1), .val (.long v1), .second, .val (.int j1), .val (.long w1), .second, .val (.int q1), .val (.int v524), .val (.int v530), .val (.ref b532), .val (.int v543), .val (.int (1 : Int32)), .val (.int v551), .val (.int v555)] [])) _
    refine XS.aload X554.here hx rfl (hb hby at_76) rfl rfl ?_
    show Steps p.tables e below (T554.setTop (mkF m 78 #[.val (.int k1), .val (.int i1), .val (.long v1), .second, .val (.int j1), .val (.long w1), .second, .val (.int q1), .val (.int v524), .val (.int v530), .val (.ref b532), .val (.int v543), .val (.int (1 : Int32)), .val (.int v551), .val (.int v555)] [(.ref b532)])) _
    refine XS.iload X554.here hx rfl (hb hby at_78) rfl ?_
    show Steps p.tables e below (T554.setTop (mkF m 80 #[.val (.int k1), .val (.int i1), .val (.long v1), .second, .val (.int j1), .val (.long w1), .second, .val (.int q1), .val (.int v524), .val (.int v530), .val (.ref b532), .val (.int v543), .val (.int (1 : Int32)), .val (.int v551), .val (.int v555)] [(.int v551), (.ref b532)])) _
    refine XS.lloadN X554.here hx rfl (hb hby at_80) rfl ?_
    exact kt
  obtain ⟨cq559, kq559, q559a, q559b, q559c⟩ := isOf hZ e554 Ehw557
  obtain ⟨_, _, ⟨T559, L559, k559, n559⟩, -, X559, ⟨Lc559, hQ559, l559, y559, z559⟩, st559⟩ := X554.virtualBack hx (y := (⟨"com/example/totality/totality/core/Windows", "set", "(IJ)V"⟩ : MethodName)) (z := (⟨"com/example/totality/totality/core/Windows", "set", "(IJ)V"⟩ : MethodName)) hown (mvT hZ (hw _ (List.mem_of_getElem? (i := 29) rfl))) (mvT hZ (hw _ (List.mem_of_getElem? (i := 30) rfl))) (notFace_of_selects (args := #[]) (mvT hZ (hw _ (List.mem_of_getElem? (i := 32) rfl)))) (mvT hZ (hw _ (List.mem_of_getElem? (i := 32) rfl))) (mvT hZ (hw _ (List.mem_of_getElem? (i := 31) rfl))) (by decide) (backOf (W := 0) (rm_set l Z a0 hw [] b532 v551 v1 ai v530 (fun _ => 0) h541 n0 z542 hw0 hai) hZ (hw _ (List.mem_of_getElem? (i := 33) rfl)) (hw _ (List.mem_of_getElem? (i := 2) rfl)) (by decide) (by decide)) q559a q559c (g := (mkF m 81 #[.val (.int k1), .val (.int i1), .val (.long v1), .second, .val (.int j1), .val (.long w1), .second, .val (.int q1), .val (.int v524), .val (.int v530), .val (.ref b532), .val (.int v543), .val (.int (1 : Int32)), .val (.int v551), .val (.int v555)] [(.long v1), (.int v551), (.ref b532)])) rfl (by rw [hml]; rfl) (Steps.refl _) (argsL := [(.int v551), (.long v1)]) (rest := []) (lenOf pd_4 rfl) rfl (by show 2 * 0 + _ ≤ _; exact Nat.le_of_eq rfl) (hb hby at_81) (fun _ _ => ⟨rfl, e554, (by decide : 1 + 1 ≤ _), (by decide : 5 + 3 ≤ _)⟩)
  dsimp only [Pt.U, Pt.locs, Pt.cells, Pt.slots] at X559 l559 y559 z559 st559 hQ559
  subst l559 y559 z559
  obtain ⟨h559, e559⟩ : ∃ z, T559.heap = z := ⟨_, rfl⟩
  rw [e559] at hQ559
  obtain ⟨rfl, N559q, z560, hw557⟩ := hQ559
  have N559 := Fr.app N554 N559q
  have Ehw561 := hw557.2.1
  have S562 : ∀ t, Steps p.tables e below (T559.setTop (mkF m 90 #[.val (.int k1), .val (.int i1), .val (.long v1), .second, .val (.int j1), .val (.long w1), .second, .val (.int q1), .val (.int v524), .val (.int v530), .val (.ref b532), .val (.int v543), .val (.int (1 : Int32)), .val (.int v551), .val (.int v555)] [(.long w1), (.int v555), (.ref b532)])) t → Steps p.tables e below (T559.setTop (mkF m 84 #[.val (.int k1), .val (.int i1), .val (.long v1), .second, .val (.int j1), .val (.long w1), .second, .val (.int q1), .val (.int v524), .val (.int v530), .val (.ref b532), .val (.int v543), .val (.int (1 : Int32)), .val (.int v551), .val (.int v555)] [])) t := by
    intro t kt
    show Steps p.tables e below (T559.setTop (mkF m 84 #[.val (.int k1), .val (.int i1), .val (.long v1), .second, .val (.int j1), .val (.long w1), .second, .val (.int q1), .val (.int v524), .val (.int v530), .val (.ref b532), .val (.int v543), .val (.int (1 : Int32)), .val (.int v551), .val (.int v555)] [])) _
    refine XS.aload X559.here hx rfl (hb hby at_84) rfl rfl ?_
    show Steps p.tables e below (T559.setTop (mkF m 86 #[.val (.int k1), .val (.int i1), .val (.long v1), .second, .val (.int j1), .val (.long w1), .second, .val (.int q1), .val (.int v524), .val (.int v530), .val (.ref b532), .val (.int v543), .val (.int (1 : Int32)), .val (.int v551), .val (.int v555)] [(.ref b532)])) _
    refine XS.iload X559.here hx rfl (hb hby at_86) rfl ?_
    show Steps p.tables e below (T559.setTop (mkF m 88 #[.val (.int k1), .val (.int i1), .val (.long v1), .second, .val (.int j1), .val (.long w1), .second, .val (.int q1), .val (.int v524), .val (.int v530), .val (.ref b532), .val (.int v543), .val (.int (1 : Int32)), .val (.int v551), .val (.int v555)] [(.int v555), (.ref b532)])) _
    refine XS.lload X559.here hx rfl (hb hby at_88) rfl ?_
    exact kt
  obtain ⟨cq563, kq563, q563a, q563b, q563c⟩ := isOf hZ e559 Ehw561
  obtain ⟨_, _, ⟨T563, L563, k563, n563⟩, -, X563, ⟨Lc563, hQ563, l563, y563, z563⟩, st563⟩ := X559.virtualBack hx (y := (⟨"com/example/totality/totality/core/Windows", "set", "(IJ)V"⟩ : MethodName)) (z := (⟨"com/example/totality/totality/core/Windows", "set", "(IJ)V"⟩ : MethodName)) hown (mvT hZ (hw _ (List.mem_of_getElem? (i := 29) rfl))) (mvT hZ (hw _ (List.mem_of_getElem? (i := 30) rfl))) (notFace_of_selects (args := #[]) (mvT hZ (hw _ (List.mem_of_getElem? (i := 32) rfl)))) (mvT hZ (hw _ (List.mem_of_getElem? (i := 32) rfl))) (mvT hZ (hw _ (List.mem_of_getElem? (i := 31) rfl))) (by decide) (backOf (W := 0) (rm_set l Z a0 hw [] b532 v555 w1 bi v530 (own_put (fun _ => 0) ai v1) h559 n0 z560 hw557 hbi) hZ (hw _ (List.mem_of_getElem? (i := 33) rfl)) (hw _ (List.mem_of_getElem? (i := 2) rfl)) (by decide) (by decide)) q563a q563c (g := (mkF m 90 #[.val (.int k1), .val (.int i1), .val (.long v1), .second, .val (.int j1), .val (.long w1), .second, .val (.int q1), .val (.int v524), .val (.int v530), .val (.ref b532), .val (.int v543), .val (.int (1 : Int32)), .val (.int v551), .val (.int v555)] [(.long w1), (.int v555), (.ref b532)])) rfl (by rw [hml]; rfl) (Steps.refl _) (argsL := [(.int v555), (.long w1)]) (rest := []) (lenOf pd_4 rfl) rfl (by show 2 * 0 + _ ≤ _; exact Nat.le_of_eq rfl) (hb hby at_90) (fun _ _ => ⟨rfl, e559, (by decide : 2 + 1 ≤ _), (by decide : 8 + 3 ≤ _)⟩)
  dsimp only [Pt.U, Pt.locs, Pt.cells, Pt.slots] at X563 l563 y563 z563 st563 hQ563
  subst l563 y563 z563
  obtain ⟨h563, e563⟩ : ∃ z, T563.heap = z := ⟨_, rfl⟩
  rw [e563] at hQ563
  obtain ⟨rfl, N563q, z564, hw561⟩ := hQ563
  have N563 := Fr.app N559 N563q
  have Elast := hw561.2.1
  have S565 : ∀ t, Steps p.tables e below (T563.setTop (mkF m 101 #[.val (.int k1), .val (.int i1), .val (.long v1), .second, .val (.int j1), .val (.long w1), .second, .val (.int q1), .val (.int v524), .val (.int v530), .val (.ref b532), .val (.int v543), .val (.int (1 : Int32)), .val (.int v551), .val (.int v555)] [(.int (0 : Int32)), (.ref b532)])) t → Steps p.tables e below (T563.setTop (mkF m 93 #[.val (.int k1), .val (.int i1), .val (.long v1), .second, .val (.int j1), .val (.long w1), .second, .val (.int q1), .val (.int v524), .val (.int v530), .val (.ref b532), .val (.int v543), .val (.int (1 : Int32)), .val (.int v551), .val (.int v555)] [])) t := by
    intro t kt
    show Steps p.tables e below (T563.setTop (mkF m 93 #[.val (.int k1), .val (.int i1), .val (.long v1), .second, .val (.int j1), .val (.long w1), .second, .val (.int q1), .val (.int v524), .val (.int v530), .val (.ref b532), .val (.int v543), .val (.int (1 : Int32)), .val (.int v551), .val (.int v555)] [])) _
    refine XS.iload X563.here hx rfl (hb hby at_93) rfl ?_
    show Steps p.tables e below (T563.setTop (mkF m 95 #[.val (.int k1), .val (.int i1), .val (.long v1), .second, .val (.int j1), .val (.long w1), .second, .val (.int q1), .val (.int v524), .val (.int v530), .val (.ref b532), .val (.int v543), .val (.int (1 : Int32)), .val (.int v551), .val (.int v555)] [(.int (1 : Int32))])) _
    refine XS.ifNo X563.here hx rfl (hb hby at_95) rfl ((if0 _ _).trans (feq (by decide)).1) ?_
    show Steps p.tables e below (T563.setTop (mkF m 98 #[.val (.int k1), .val (.int i1), .val (.long v1), .second, .val (.int j1), .val (.long w1), .second, .val (.int q1), .val (.int v524), .val (.int v530), .val (.ref b532), .val (.int v543), .val (.int (1 : Int32)), .val (.int v551), .val (.int v555)] [])) _
    refine XS.aload X563.here hx rfl (hb hby at_98) rfl rfl ?_
    show Steps p.tables e below (T563.setTop (mkF m 100 #[.val (.int k1), .val (.int i1), .val (.long v1), .second, .val (.int j1), .val (.long w1), .second, .val (.int q1), .val (.int v524), .val (.int v530), .val (.ref b532), .val (.int v543), .val (.int (1 : Int32)), .val (.int v551), .val (.int v555)] [(.ref b532)])) _
    refine XS.iconst X563.here hx rfl (hb hby at_100) ?_
    exact kt
  obtain ⟨cq566, kq566, q566a, q566b, q566c⟩ := isOf hZ e563 Elast
  obtain ⟨_, _, ⟨T566, L566, k566, n566⟩, -, X566, ⟨Lc566, hQ566, l566, y566, z566⟩, st566⟩ := X563.virtualBack hx (y := (⟨"com/example/totality/totality/core/Windows", "start", "(I)J"⟩ : MethodName)) (z := (⟨"com/example/totality/totality/core/Windows", "start", "(I)J"⟩ : MethodName)) hown (mvT hZ (hw _ (List.mem_of_getElem? (i := 18) rfl))) (mvT hZ (hw _ (List.mem_of_getElem? (i := 19) rfl))) (notFace_of_selects (args := #[]) (mvT hZ (hw _ (List.mem_of_getElem? (i := 21) rfl)))) (mvT hZ (hw _ (List.mem_of_getElem? (i := 21) rfl))) (mvT hZ (hw _ (List.mem_of_getElem? (i := 20) rfl))) (by decide) (backOf (W := 0) (rm_start l Z a0 hw [] b532 (0 : Int32) 0 v530 (own_put (own_put (fun _ => 0) ai v1) bi w1) h563 n0 z564 hw561 (show own_ix (0 : Int32) 0 from ⟨by decide, by decide⟩)) hZ (hw _ (List.mem_of_getElem? (i := 22) rfl)) (hw _ (List.mem_of_getElem? (i := 2) rfl)) (by decide) (by decide)) q566a q566c (g := (mkF m 101 #[.val (.int k1), .val (.int i1), .val (.long v1), .second, .val (.int j1), .val (.long w1), .second, .val (.int q1), .val (.int v524), .val (.int v530), .val (.ref b532), .val (.int v543), .val (.int (1 : Int32)), .val (.int v551), .val (.int v555)] [(.int (0 : Int32)), (.ref b532)])) rfl (by rw [hml]; rfl) (Steps.refl _) (argsL := [(.int (0 : Int32))]) (rest := []) (lenOf pd_0 rfl) rfl (by show 2 * 0 + _ ≤ _; exact Nat.le_of_eq rfl) (hb hby at_101) (fun _ _ => ⟨rfl, e563, (by decide : 3 + 0 ≤ _), (by decide : 11 + 0 ≤ _)⟩)
  dsimp only [Pt.U, Pt.locs, Pt.cells, Pt.slots] at X566 l566 y566 z566 st566 hQ566
  subst l566 y566 z566
  obtain ⟨rfl, N566q, e566⟩ := hQ566
  have N566 := Fr.app N563 N566q
  have S567 : ∀ t, Steps p.tables e below (T566.setTop (mkF m 112 #[.val (.int k1), .val (.int i1), .val (.long v1), .second, .val (.int j1), .val (.long w1), .second, .val (.int q1), .val (.int v524), .val (.int v530), .val (.ref b532), .val (.int v543), .val (.int (1 : Int32)), .val (.int v551), .val (.int v555)] [(.long w1), (.int v555), (.long v1), (.int v551), (.int (0 : Int32)), (.long ((own_put (own_put (fun _ => 0) ai v1) bi w1) 0))])) t → Steps p.tables e below (T566.setTop (mkF m 104 #[.val (.int k1), .val (.int i1), .val (.long v1), .second, .val (.int j1), .val (.long w1), .second, .val (.int q1), .val (.int v524), .val (.int v530), .val (.ref b532), .val (.int v543), .val (.int (1 : Int32)), .val (.int v551), .val (.int v555)] [(.long ((own_put (own_put (fun _ => 0) ai v1) bi w1) 0))])) t := by
    intro t kt
    show Steps p.tables e below (T566.setTop (mkF m 104 #[.val (.int k1), .val (.int i1), .val (.long v1), .second, .val (.int j1), .val (.long w1), .second, .val (.int q1), .val (.int v524), .val (.int v530), .val (.ref b532), .val (.int v543), .val (.int (1 : Int32)), .val (.int v551), .val (.int v555)] [(.long ((own_put (own_put (fun _ => 0) ai v1) bi w1) 0))])) _
    refine XS.iconst X566.here hx rfl (hb hby at_104) ?_
    show Steps p.tables e below (T566.setTop (mkF m 105 #[.val (.int k1), .val (.int i1), .val (.long v1), .second, .val (.int j1), .val (.long w1), .second, .val (.int q1), .val (.int v524), .val (.int v530), .val (.ref b532), .val (.int v543), .val (.int (1 : Int32)), .val (.int v551), .val (.int v555)] [(.int (0 : Int32)), (.long ((own_put (own_put (fun _ => 0) ai v1) bi w1) 0))])) _
    refine XS.iload X566.here hx rfl (hb hby at_105) rfl ?_
    show Steps p.tables e below (T566.setTop (mkF m 107 #[.val (.int k1), .val (.int i1), .val (.long v1), .second, .val (.int j1), .val (.long w1), .second, .val (.int q1), .val (.int v524), .val (.int v530), .val (.ref b532), .val (.int v543), .val (.int (1 : Int32)), .val (.int v551), .val (.int v555)] [(.int v551), (.int (0 : Int32)), (.long ((own_put (own_put (fun _ => 0) ai v1) bi w1) 0))])) _
    refine XS.lloadN X566.here hx rfl (hb hby at_107) rfl ?_
    show Steps p.tables e below (T566.setTop (mkF m 108 #[.val (.int k1), .val (.int i1), .val (.long v1), .second, .val (.int j1), .val (.long w1), .second, .val (.int q1), .val (.int v524), .val (.int v530), .val (.ref b532), .val (.int v543), .val (.int (1 : Int32)), .val (.int v551), .val (.int v555)] [(.long v1), (.int v551), (.int (0 : Int32)), (.long ((own_put (own_put (fun _ => 0) ai v1) bi w1) 0))])) _
    refine XS.iload X566.here hx rfl (hb hby at_108) rfl ?_
    show Steps p.tables e below (T566.setTop (mkF m 110 #[.val (.int k1), .val (.int i1), .val (.long v1), .second, .val (.int j1), .val (.long w1), .second, .val (.int q1), .val (.int v524), .val (.int v530), .val (.ref b532), .val (.int v543), .val (.int (1 : Int32)), .val (.int v551), .val (.int v555)] [(.int v555), (.long v1), (.int v551), (.int (0 : Int32)), (.long ((own_put (own_put (fun _ => 0) ai v1) bi w1) 0))])) _
    refine XS.lload X566.here hx rfl (hb hby at_110) rfl ?_
    exact kt
  obtain ⟨_, _, ⟨T568, L568, k568, n568⟩, -, X568, ⟨Lc568, hQ568, l568, y568, z568⟩, st568⟩ := Jvm.LawKit.callS X566 hx (y := (⟨"com/example/totality/totality/core/WindowsStartPinLaw", "expect", "(IIJIJ)J"⟩ : MethodName)) hown (mvT hZ (hw _ (List.mem_of_getElem? (i := 36) rfl))) (mvT hZ (hw _ (List.mem_of_getElem? (i := 37) rfl))) (mvT hZ (hw _ (List.mem_of_getElem? (i := 27) rfl))) (mvT hZ (hw _ (List.mem_of_getElem? (i := 38) rfl))) (by decide) (backOf (W := 2) (rm6 l Z a0 hw [] (0 : Int32) v551 v1 v555 w1 h563 n0 z564 ) hZ (hw _ (List.mem_of_getElem? (i := 38) rfl)) (hw _ (List.mem_of_getElem? (i := 27) rfl)) (by decide) (by decide)) (g := (mkF m 112 #[.val (.int k1), .val (.int i1), .val (.long v1), .second, .val (.int j1), .val (.long w1), .second, .val (.int q1), .val (.int v524), .val (.int v530), .val (.ref b532), .val (.int v543), .val (.int (1 : Int32)), .val (.int v551), .val (.int v555)] [(.long w1), (.int v555), (.long v1), (.int v551), (.int (0 : Int32)), (.long ((own_put (own_put (fun _ => 0) ai v1) bi w1) 0))])) rfl (by rw [hml]; rfl) (argsL := [(.int (0 : Int32)), (.int v551), (.long v1), (.int v555), (.long w1)]) (rest := [(.long ((own_put (own_put (fun _ => 0) ai v1) bi w1) 0))]) (lenOf pd_5 rfl) rfl (by show 2 * 0 + _ ≤ _; exact Nat.le_of_eq rfl) (hb hby at_112) (fun _ _ => ⟨rfl, e566, (by decide : 3 + 0 ≤ _), (by decide : 11 + 0 ≤ _)⟩)
  dsimp only [Pt.U, Pt.locs, Pt.cells, Pt.slots] at X568 l568 y568 z568 st568 hQ568
  subst l568 y568 z568
  obtain ⟨rfl, N568q, e568⟩ := hQ568
  have N568 := Fr.app N566 N568q
  have S569 : ∀ t, Steps p.tables e below (T568.setTop (mkF m 122 #[.val (.int k1), .val (.int i1), .val (.long v1), .second, .val (.int j1), .val (.long w1), .second, .val (.int q1), .val (.int v524), .val (.int v530), .val (.ref b532), .val (.int v543), .val (.int (1 : Int32)), .val (.int v551), .val (.int v555)] [(.int (1 : Int32)), (.ref b532)])) t → Steps p.tables e below (T568.setTop (mkF m 115 #[.val (.int k1), .val (.int i1), .val (.long v1), .second, .val (.int j1), .val (.long w1), .second, .val (.int q1), .val (.int v524), .val (.int v530), .val (.ref b532), .val (.int v543), .val (.int (1 : Int32)), .val (.int v551), .val (.int v555)] [(.long (own_exp (0 : Int32) v551 v1 v555 w1)), (.long ((own_put (own_put (fun _ => 0) ai v1) bi w1) 0))])) t := by
    intro t kt
    show Steps p.tables e below (T568.setTop (mkF m 115 #[.val (.int k1), .val (.int i1), .val (.long v1), .second, .val (.int j1), .val (.long w1), .second, .val (.int q1), .val (.int v524), .val (.int v530), .val (.ref b532), .val (.int v543), .val (.int (1 : Int32)), .val (.int v551), .val (.int v555)] [(.long (own_exp (0 : Int32) v551 v1 v555 w1)), (.long ((own_put (own_put (fun _ => 0) ai v1) bi w1) 0))])) _
    refine XS.lcmp X568.here hx rfl (hb hby at_115) rfl ?_
    show Steps p.tables e below (T568.setTop (mkF m 116 #[.val (.int k1), .val (.int i1), .val (.long v1), .second, .val (.int j1), .val (.long w1), .second, .val (.int q1), .val (.int v524), .val (.int v530), .val (.ref b532), .val (.int v543), .val (.int (1 : Int32)), .val (.int v551), .val (.int v555)] [(.int (lcmpW ((own_put (own_put (fun _ => 0) ai v1) bi w1) 0) (own_exp (0 : Int32) v551 v1 v555 w1)))])) _
    refine XS.ifNo X568.here hx rfl (hb hby at_116) rfl ((if0 _ _).trans (teq ((lw_eq ((own_put (own_put (fun _ => 0) ai v1) bi w1) 0) (own_exp (0 : Int32) v551 v1 v555 w1)).mpr (own_fin hai hbi (show own_ix (0 : Int32) 0 from ⟨by decide, by decide⟩)))).2) ?_
    show Steps p.tables e below (T568.setTop (mkF m 119 #[.val (.int k1), .val (.int i1), .val (.long v1), .second, .val (.int j1), .val (.long w1), .second, .val (.int q1), .val (.int v524), .val (.int v530), .val (.ref b532), .val (.int v543), .val (.int (1 : Int32)), .val (.int v551), .val (.int v555)] [])) _
    refine XS.aload X568.here hx rfl (hb hby at_119) rfl rfl ?_
    show Steps p.tables e below (T568.setTop (mkF m 121 #[.val (.int k1), .val (.int i1), .val (.long v1), .second, .val (.int j1), .val (.long w1), .second, .val (.int q1), .val (.int v524), .val (.int v530), .val (.ref b532), .val (.int v543), .val (.int (1 : Int32)), .val (.int v551), .val (.int v555)] [(.ref b532)])) _
    refine XS.iconst X568.here hx rfl (hb hby at_121) ?_
    exact kt
  obtain ⟨cq570, kq570, q570a, q570b, q570c⟩ := isOf hZ e568 Elast
  obtain ⟨_, _, ⟨T570, L570, k570, n570⟩, -, X570, ⟨Lc570, hQ570, l570, y570, z570⟩, st570⟩ := X568.virtualBack hx (y := (⟨"com/example/totality/totality/core/Windows", "start", "(I)J"⟩ : MethodName)) (z := (⟨"com/example/totality/totality/core/Windows", "start", "(I)J"⟩ : MethodName)) hown (mvT hZ (hw _ (List.mem_of_getElem? (i := 18) rfl))) (mvT hZ (hw _ (List.mem_of_getElem? (i := 19) rfl))) (notFace_of_selects (args := #[]) (mvT hZ (hw _ (List.mem_of_getElem? (i := 21) rfl)))) (mvT hZ (hw _ (List.mem_of_getElem? (i := 21) rfl))) (mvT hZ (hw _ (List.mem_of_getElem? (i := 20) rfl))) (by decide) (backOf (W := 0) (rm_start l Z a0 hw [] b532 (1 : Int32) 1 v530 (own_put (own_put (fun _ => 0) ai v1) bi w1) h563 n0 z564 hw561 (show own_ix (1 : Int32) 1 from ⟨by decide, by decide⟩)) hZ (hw _ (List.mem_of_getElem? (i := 22) rfl)) (hw _ (List.mem_of_getElem? (i := 2) rfl)) (by decide) (by decide)) q570a q570c (g := (mkF m 122 #[.val (.int k1), .val (.int i1), .val (.long v1), .second, .val (.int j1), .val (.long w1), .second, .val (.int q1), .val (.int v524), .val (.int v530), .val (.ref b532), .val (.int v543), .val (.int (1 : Int32)), .val (.int v551), .val (.int v555)] [(.int (1 : Int32)), (.ref b532)])) rfl (by rw [hml]; rfl) (Steps.refl _) (argsL := [(.int (1 : Int32))]) (rest := []) (lenOf pd_0 rfl) rfl (by show 2 * 0 + _ ≤ _; exact Nat.le_of_eq rfl) (hb hby at_122) (fun _ _ => ⟨rfl, e568, (by decide : 3 + 0 ≤ _), (by decide : 11 + 0 ≤ _)⟩)
  dsimp only [Pt.U, Pt.locs, Pt.cells, Pt.slots] at X570 l570 y570 z570 st570 hQ570
  subst l570 y570 z570
  obtain ⟨rfl, N570q, e570⟩ := hQ570
  have N570 := Fr.app N568 N570q
  have S571 : ∀ t, Steps p.tables e below (T570.setTop (mkF m 133 #[.val (.int k1), .val (.int i1), .val (.long v1), .second, .val (.int j1), .val (.long w1), .second, .val (.int q1), .val (.int v524), .val (.int v530), .val (.ref b532), .val (.int v543), .val (.int (1 : Int32)), .val (.int v551), .val (.int v555)] [(.long w1), (.int v555), (.long v1), (.int v551), (.int (1 : Int32)), (.long ((own_put (own_put (fun _ => 0) ai v1) bi w1) 1))])) t → Steps p.tables e below (T570.setTop (mkF m 125 #[.val (.int k1), .val (.int i1), .val (.long v1), .second, .val (.int j1), .val (.long w1), .second, .val (.int q1), .val (.int v524), .val (.int v530), .val (.ref b532), .val (.int v543), .val (.int (1 : Int32)), .val (.int v551), .val (.int v555)] [(.long ((own_put (own_put (fun _ => 0) ai v1) bi w1) 1))])) t := by
    intro t kt
    show Steps p.tables e below (T570.setTop (mkF m 125 #[.val (.int k1), .val (.int i1), .val (.long v1), .second, .val (.int j1), .val (.long w1), .second, .val (.int q1), .val (.int v524), .val (.int v530), .val (.ref b532), .val (.int v543), .val (.int (1 : Int32)), .val (.int v551), .val (.int v555)] [(.long ((own_put (own_put (fun _ => 0) ai v1) bi w1) 1))])) _
    refine XS.iconst X570.here hx rfl (hb hby at_125) ?_
    show Steps p.tables e below (T570.setTop (mkF m 126 #[.val (.int k1), .val (.int i1), .val (.long v1), .second, .val (.int j1), .val (.long w1), .second, .val (.int q1), .val (.int v524), .val (.int v530), .val (.ref b532), .val (.int v543), .val (.int (1 : Int32)), .val (.int v551), .val (.int v555)] [(.int (1 : Int32)), (.long ((own_put (own_put (fun _ => 0) ai v1) bi w1) 1))])) _
    refine XS.iload X570.here hx rfl (hb hby at_126) rfl ?_
    show Steps p.tables e below (T570.setTop (mkF m 128 #[.val (.int k1), .val (.int i1), .val (.long v1), .second, .val (.int j1), .val (.long w1), .second, .val (.int q1), .val (.int v524), .val (.int v530), .val (.ref b532), .val (.int v543), .val (.int (1 : Int32)), .val (.int v551), .val (.int v555)] [(.int v551), (.int (1 : Int32)), (.long ((own_put (own_put (fun _ => 0) ai v1) bi w1) 1))])) _
    refine XS.lloadN X570.here hx rfl (hb hby at_128) rfl ?_
    show Steps p.tables e below (T570.setTop (mkF m 129 #[.val (.int k1), .val (.int i1), .val (.long v1), .second, .val (.int j1), .val (.long w1), .second, .val (.int q1), .val (.int v524), .val (.int v530), .val (.ref b532), .val (.int v543), .val (.int (1 : Int32)), .val (.int v551), .val (.int v555)] [(.long v1), (.int v551), (.int (1 : Int32)), (.long ((own_put (own_put (fun _ => 0) ai v1) bi w1) 1))])) _
    refine XS.iload X570.here hx rfl (hb hby at_129) rfl ?_
    show Steps p.tables e below (T570.setTop (mkF m 131 #[.val (.int k1), .val (.int i1), .val (.long v1), .second, .val (.int j1), .val (.long w1), .second, .val (.int q1), .val (.int v524), .val (.int v530), .val (.ref b532), .val (.int v543), .val (.int (1 : Int32)), .val (.int v551), .val (.int v555)] [(.int v555), (.long v1), (.int v551), (.int (1 : Int32)), (.long ((own_put (own_put (fun _ => 0) ai v1) bi w1) 1))])) _
    refine XS.lload X570.here hx rfl (hb hby at_131) rfl ?_
    exact kt
  obtain ⟨_, _, ⟨T572, L572, k572, n572⟩, -, X572, ⟨Lc572, hQ572, l572, y572, z572⟩, st572⟩ := Jvm.LawKit.callS X570 hx (y := (⟨"com/example/totality/totality/core/WindowsStartPinLaw", "expect", "(IIJIJ)J"⟩ : MethodName)) hown (mvT hZ (hw _ (List.mem_of_getElem? (i := 36) rfl))) (mvT hZ (hw _ (List.mem_of_getElem? (i := 37) rfl))) (mvT hZ (hw _ (List.mem_of_getElem? (i := 27) rfl))) (mvT hZ (hw _ (List.mem_of_getElem? (i := 38) rfl))) (by decide) (backOf (W := 2) (rm6 l Z a0 hw [] (1 : Int32) v551 v1 v555 w1 h563 n0 z564 ) hZ (hw _ (List.mem_of_getElem? (i := 38) rfl)) (hw _ (List.mem_of_getElem? (i := 27) rfl)) (by decide) (by decide)) (g := (mkF m 133 #[.val (.int k1), .val (.int i1), .val (.long v1), .second, .val (.int j1), .val (.long w1), .second, .val (.int q1), .val (.int v524), .val (.int v530), .val (.ref b532), .val (.int v543), .val (.int (1 : Int32)), .val (.int v551), .val (.int v555)] [(.long w1), (.int v555), (.long v1), (.int v551), (.int (1 : Int32)), (.long ((own_put (own_put (fun _ => 0) ai v1) bi w1) 1))])) rfl (by rw [hml]; rfl) (argsL := [(.int (1 : Int32)), (.int v551), (.long v1), (.int v555), (.long w1)]) (rest := [(.long ((own_put (own_put (fun _ => 0) ai v1) bi w1) 1))]) (lenOf pd_5 rfl) rfl (by show 2 * 0 + _ ≤ _; exact Nat.le_of_eq rfl) (hb hby at_133) (fun _ _ => ⟨rfl, e570, (by decide : 3 + 0 ≤ _), (by decide : 11 + 0 ≤ _)⟩)
  dsimp only [Pt.U, Pt.locs, Pt.cells, Pt.slots] at X572 l572 y572 z572 st572 hQ572
  subst l572 y572 z572
  obtain ⟨rfl, N572q, e572⟩ := hQ572
  have N572 := Fr.app N570 N572q
  have S573 : ∀ t, Steps p.tables e below (T572.setTop (mkF m 143 #[.val (.int k1), .val (.int i1), .val (.long v1), .second, .val (.int j1), .val (.long w1), .second, .val (.int q1), .val (.int v524), .val (.int v530), .val (.ref b532), .val (.int v543), .val (.int (1 : Int32)), .val (.int v551), .val (.int v555)] [(.int (2 : Int32)), (.ref b532)])) t → Steps p.tables e below (T572.setTop (mkF m 136 #[.val (.int k1), .val (.int i1), .val (.long v1), .second, .val (.int j1), .val (.long w1), .second, .val (.int q1), .val (.int v524), .val (.int v530), .val (.ref b532), .val (.int v543), .val (.int (1 : Int32)), .val (.int v551), .val (.int v555)] [(.long (own_exp (1 : Int32) v551 v1 v555 w1)), (.long ((own_put (own_put (fun _ => 0) ai v1) bi w1) 1))])) t := by
    intro t kt
    show Steps p.tables e below (T572.setTop (mkF m 136 #[.val (.int k1), .val (.int i1), .val (.long v1), .second, .val (.int j1), .val (.long w1), .second, .val (.int q1), .val (.int v524), .val (.int v530), .val (.ref b532), .val (.int v543), .val (.int (1 : Int32)), .val (.int v551), .val (.int v555)] [(.long (own_exp (1 : Int32) v551 v1 v555 w1)), (.long ((own_put (own_put (fun _ => 0) ai v1) bi w1) 1))])) _
    refine XS.lcmp X572.here hx rfl (hb hby at_136) rfl ?_
    show Steps p.tables e below (T572.setTop (mkF m 137 #[.val (.int k1), .val (.int i1), .val (.long v1), .second, .val (.int j1), .val (.long w1), .second, .val (.int q1), .val (.int v524), .val (.int v530), .val (.ref b532), .val (.int v543), .val (.int (1 : Int32)), .val (.int v551), .val (.int v555)] [(.int (lcmpW ((own_put (own_put (fun _ => 0) ai v1) bi w1) 1) (own_exp (1 : Int32) v551 v1 v555 w1)))])) _
    refine XS.ifNo X572.here hx rfl (hb hby at_137) rfl ((if0 _ _).trans (teq ((lw_eq ((own_put (own_put (fun _ => 0) ai v1) bi w1) 1) (own_exp (1 : Int32) v551 v1 v555 w1)).mpr (own_fin hai hbi (show own_ix (1 : Int32) 1 from ⟨by decide, by decide⟩)))).2) ?_
    show Steps p.tables e below (T572.setTop (mkF m 140 #[.val (.int k1), .val (.int i1), .val (.long v1), .second, .val (.int j1), .val (.long w1), .second, .val (.int q1), .val (.int v524), .val (.int v530), .val (.ref b532), .val (.int v543), .val (.int (1 : Int32)), .val (.int v551), .val (.int v555)] [])) _
    refine XS.aload X572.here hx rfl (hb hby at_140) rfl rfl ?_
    show Steps p.tables e below (T572.setTop (mkF m 142 #[.val (.int k1), .val (.int i1), .val (.long v1), .second, .val (.int j1), .val (.long w1), .second, .val (.int q1), .val (.int v524), .val (.int v530), .val (.ref b532), .val (.int v543), .val (.int (1 : Int32)), .val (.int v551), .val (.int v555)] [(.ref b532)])) _
    refine XS.iconst X572.here hx rfl (hb hby at_142) ?_
    exact kt
  obtain ⟨cq574, kq574, q574a, q574b, q574c⟩ := isOf hZ e572 Elast
  obtain ⟨_, _, ⟨T574, L574, k574, n574⟩, -, X574, ⟨Lc574, hQ574, l574, y574, z574⟩, st574⟩ := X572.virtualBack hx (y := (⟨"com/example/totality/totality/core/Windows", "start", "(I)J"⟩ : MethodName)) (z := (⟨"com/example/totality/totality/core/Windows", "start", "(I)J"⟩ : MethodName)) hown (mvT hZ (hw _ (List.mem_of_getElem? (i := 18) rfl))) (mvT hZ (hw _ (List.mem_of_getElem? (i := 19) rfl))) (notFace_of_selects (args := #[]) (mvT hZ (hw _ (List.mem_of_getElem? (i := 21) rfl)))) (mvT hZ (hw _ (List.mem_of_getElem? (i := 21) rfl))) (mvT hZ (hw _ (List.mem_of_getElem? (i := 20) rfl))) (by decide) (backOf (W := 0) (rm_start l Z a0 hw [] b532 (2 : Int32) 2 v530 (own_put (own_put (fun _ => 0) ai v1) bi w1) h563 n0 z564 hw561 (show own_ix (2 : Int32) 2 from ⟨by decide, by decide⟩)) hZ (hw _ (List.mem_of_getElem? (i := 22) rfl)) (hw _ (List.mem_of_getElem? (i := 2) rfl)) (by decide) (by decide)) q574a q574c (g := (mkF m 143 #[.val (.int k1), .val (.int i1), .val (.long v1), .second, .val (.int j1), .val (.long w1), .second, .val (.int q1), .val (.int v524), .val (.int v530), .val (.ref b532), .val (.int v543), .val (.int (1 : Int32)), .val (.int v551), .val (.int v555)] [(.int (2 : Int32)), (.ref b532)])) rfl (by rw [hml]; rfl) (Steps.refl _) (argsL := [(.int (2 : Int32))]) (rest := []) (lenOf pd_0 rfl) rfl (by show 2 * 0 + _ ≤ _; exact Nat.le_of_eq rfl) (hb hby at_143) (fun _ _ => ⟨rfl, e572, (by decide : 3 + 0 ≤ _), (by decide : 11 + 0 ≤ _)⟩)
  dsimp only [Pt.U, Pt.locs, Pt.cells, Pt.slots] at X574 l574 y574 z574 st574 hQ574
  subst l574 y574 z574
  obtain ⟨rfl, N574q, e574⟩ := hQ574
  have N574 := Fr.app N572 N574q
  have S575 : ∀ t, Steps p.tables e below (T574.setTop (mkF m 154 #[.val (.int k1), .val (.int i1), .val (.long v1), .second, .val (.int j1), .val (.long w1), .second, .val (.int q1), .val (.int v524), .val (.int v530), .val (.ref b532), .val (.int v543), .val (.int (1 : Int32)), .val (.int v551), .val (.int v555)] [(.long w1), (.int v555), (.long v1), (.int v551), (.int (2 : Int32)), (.long ((own_put (own_put (fun _ => 0) ai v1) bi w1) 2))])) t → Steps p.tables e below (T574.setTop (mkF m 146 #[.val (.int k1), .val (.int i1), .val (.long v1), .second, .val (.int j1), .val (.long w1), .second, .val (.int q1), .val (.int v524), .val (.int v530), .val (.ref b532), .val (.int v543), .val (.int (1 : Int32)), .val (.int v551), .val (.int v555)] [(.long ((own_put (own_put (fun _ => 0) ai v1) bi w1) 2))])) t := by
    intro t kt
    show Steps p.tables e below (T574.setTop (mkF m 146 #[.val (.int k1), .val (.int i1), .val (.long v1), .second, .val (.int j1), .val (.long w1), .second, .val (.int q1), .val (.int v524), .val (.int v530), .val (.ref b532), .val (.int v543), .val (.int (1 : Int32)), .val (.int v551), .val (.int v555)] [(.long ((own_put (own_put (fun _ => 0) ai v1) bi w1) 2))])) _
    refine XS.iconst X574.here hx rfl (hb hby at_146) ?_
    show Steps p.tables e below (T574.setTop (mkF m 147 #[.val (.int k1), .val (.int i1), .val (.long v1), .second, .val (.int j1), .val (.long w1), .second, .val (.int q1), .val (.int v524), .val (.int v530), .val (.ref b532), .val (.int v543), .val (.int (1 : Int32)), .val (.int v551), .val (.int v555)] [(.int (2 : Int32)), (.long ((own_put (own_put (fun _ => 0) ai v1) bi w1) 2))])) _
    refine XS.iload X574.here hx rfl (hb hby at_147) rfl ?_
    show Steps p.tables e below (T574.setTop (mkF m 149 #[.val (.int k1), .val (.int i1), .val (.long v1), .second, .val (.int j1), .val (.long w1), .second, .val (.int q1), .val (.int v524), .val (.int v530), .val (.ref b532), .val (.int v543), .val (.int (1 : Int32)), .val (.int v551), .val (.int v555)] [(.int v551), (.int (2 : Int32)), (.long ((own_put (own_put (fun _ => 0) ai v1) bi w1) 2))])) _
    refine XS.lloadN X574.here hx rfl (hb hby at_149) rfl ?_
    show Steps p.tables e below (T574.setTop (mkF m 150 #[.val (.int k1), .val (.int i1), .val (.long v1), .second, .val (.int j1), .val (.long w1), .second, .val (.int q1), .val (.int v524), .val (.int v530), .val (.ref b532), .val (.int v543), .val (.int (1 : Int32)), .val (.int v551), .val (.int v555)] [(.long v1), (.int v551), (.int (2 : Int32)), (.long ((own_put (own_put (fun _ => 0) ai v1) bi w1) 2))])) _
    refine XS.iload X574.here hx rfl (hb hby at_150) rfl ?_
    show Steps p.tables e below (T574.setTop (mkF m 152 #[.val (.int k1), .val (.int i1), .val (.long v1), .second, .val (.int j1), .val (.long w1), .second, .val (.int q1), .val (.int v524), .val (.int v530), .val (.ref b532), .val (.int v543), .val (.int (1 : Int32)), .val (.int v551), .val (.int v555)] [(.int v555), (.long v1), (.int v551), (.int (2 : Int32)), (.long ((own_put (own_put (fun _ => 0) ai v1) bi w1) 2))])) _
    refine XS.lload X574.here hx rfl (hb hby at_152) rfl ?_
    exact kt
  obtain ⟨_, _, ⟨T576, L576, k576, n576⟩, -, X576, ⟨Lc576, hQ576, l576, y576, z576⟩, st576⟩ := Jvm.LawKit.callS X574 hx (y := (⟨"com/example/totality/totality/core/WindowsStartPinLaw", "expect", "(IIJIJ)J"⟩ : MethodName)) hown (mvT hZ (hw _ (List.mem_of_getElem? (i := 36) rfl))) (mvT hZ (hw _ (List.mem_of_getElem? (i := 37) rfl))) (mvT hZ (hw _ (List.mem_of_getElem? (i := 27) rfl))) (mvT hZ (hw _ (List.mem_of_getElem? (i := 38) rfl))) (by decide) (backOf (W := 2) (rm6 l Z a0 hw [] (2 : Int32) v551 v1 v555 w1 h563 n0 z564 ) hZ (hw _ (List.mem_of_getElem? (i := 38) rfl)) (hw _ (List.mem_of_getElem? (i := 27) rfl)) (by decide) (by decide)) (g := (mkF m 154 #[.val (.int k1), .val (.int i1), .val (.long v1), .second, .val (.int j1), .val (.long w1), .second, .val (.int q1), .val (.int v524), .val (.int v530), .val (.ref b532), .val (.int v543), .val (.int (1 : Int32)), .val (.int v551), .val (.int v555)] [(.long w1), (.int v555), (.long v1), (.int v551), (.int (2 : Int32)), (.long ((own_put (own_put (fun _ => 0) ai v1) bi w1) 2))])) rfl (by rw [hml]; rfl) (argsL := [(.int (2 : Int32)), (.int v551), (.long v1), (.int v555), (.long w1)]) (rest := [(.long ((own_put (own_put (fun _ => 0) ai v1) bi w1) 2))]) (lenOf pd_5 rfl) rfl (by show 2 * 0 + _ ≤ _; exact Nat.le_of_eq rfl) (hb hby at_154) (fun _ _ => ⟨rfl, e574, (by decide : 3 + 0 ≤ _), (by decide : 11 + 0 ≤ _)⟩)
  dsimp only [Pt.U, Pt.locs, Pt.cells, Pt.slots] at X576 l576 y576 z576 st576 hQ576
  subst l576 y576 z576
  obtain ⟨rfl, N576q, e576⟩ := hQ576
  have N576 := Fr.app N574 N576q
  have S577 : ∀ t, Steps p.tables e below (T576.setTop (mkF m 166 #[.val (.int k1), .val (.int i1), .val (.long v1), .second, .val (.int j1), .val (.long w1), .second, .val (.int q1), .val (.int v524), .val (.int v530), .val (.ref b532), .val (.int v543), .val (.int (1 : Int32)), .val (.int v551), .val (.int v555)] [(.int (1 : Int32))])) t → Steps p.tables e below (T576.setTop (mkF m 157 #[.val (.int k1), .val (.int i1), .val (.long v1), .second, .val (.int j1), .val (.long w1), .second, .val (.int q1), .val (.int v524), .val (.int v530), .val (.ref b532), .val (.int v543), .val (.int (1 : Int32)), .val (.int v551), .val (.int v555)] [(.long (own_exp (2 : Int32) v551 v1 v555 w1)), (.long ((own_put (own_put (fun _ => 0) ai v1) bi w1) 2))])) t := by
    intro t kt
    show Steps p.tables e below (T576.setTop (mkF m 157 #[.val (.int k1), .val (.int i1), .val (.long v1), .second, .val (.int j1), .val (.long w1), .second, .val (.int q1), .val (.int v524), .val (.int v530), .val (.ref b532), .val (.int v543), .val (.int (1 : Int32)), .val (.int v551), .val (.int v555)] [(.long (own_exp (2 : Int32) v551 v1 v555 w1)), (.long ((own_put (own_put (fun _ => 0) ai v1) bi w1) 2))])) _
    refine XS.lcmp X576.here hx rfl (hb hby at_157) rfl ?_
    show Steps p.tables e below (T576.setTop (mkF m 158 #[.val (.int k1), .val (.int i1), .val (.long v1), .second, .val (.int j1), .val (.long w1), .second, .val (.int q1), .val (.int v524), .val (.int v530), .val (.ref b532), .val (.int v543), .val (.int (1 : Int32)), .val (.int v551), .val (.int v555)] [(.int (lcmpW ((own_put (own_put (fun _ => 0) ai v1) bi w1) 2) (own_exp (2 : Int32) v551 v1 v555 w1)))])) _
    refine XS.ifNo X576.here hx rfl (hb hby at_158) rfl ((if0 _ _).trans (teq ((lw_eq ((own_put (own_put (fun _ => 0) ai v1) bi w1) 2) (own_exp (2 : Int32) v551 v1 v555 w1)).mpr (own_fin hai hbi (show own_ix (2 : Int32) 2 from ⟨by decide, by decide⟩)))).2) ?_
    show Steps p.tables e below (T576.setTop (mkF m 161 #[.val (.int k1), .val (.int i1), .val (.long v1), .second, .val (.int j1), .val (.long w1), .second, .val (.int q1), .val (.int v524), .val (.int v530), .val (.ref b532), .val (.int v543), .val (.int (1 : Int32)), .val (.int v551), .val (.int v555)] [])) _
    refine XS.iconst X576.here hx rfl (hb hby at_161) ?_
    show Steps p.tables e below (T576.setTop (mkF m 162 #[.val (.int k1), .val (.int i1), .val (.long v1), .second, .val (.int j1), .val (.long w1), .second, .val (.int q1), .val (.int v524), .val (.int v530), .val (.ref b532), .val (.int v543), .val (.int (1 : Int32)), .val (.int v551), .val (.int v555)] [(.int (1 : Int32))])) _
    refine XS.goto X576.here hx rfl (pc0 := 162) (pc' := 166) rfl (hb hby at_162) (by decide) (by decide) ?_
    exact kt
  have C578 : ∀ t, Steps p.tables e below (T576.setTop (mkF m 166 #[.val (.int k1), .val (.int i1), .val (.long v1), .second, .val (.int j1), .val (.long w1), .second, .val (.int q1), .val (.int v524), .val (.int v530), .val (.ref b532), .val (.int v543), .val (.int (1 : Int32)), .val (.int v551), .val (.int v555)] [(.int (1 : Int32))])) t → Steps p.tables e below (s₁.setTop (mkF m 0 #[.val (.int k1), .val (.int i1), .val (.long v1), .second, .val (.int j1), .val (.long w1), .second, .val (.int q1), .unset, .unset, .unset, .unset, .unset, .unset, .unset] [])) t := (fun t k => (S525 t (S526 t (S527 t (S529 t (S531 t (st532 t (S540 t (st541.trans (S544 t (S545 t (S546 t (st547.trans (S549 t (st550 t (S552 t (S553 t (st554 t (S556 t (S558 t (st559.trans (S562 t (st563.trans (S565 t (st566.trans (S567 t (st568 t (S569 t (st570.trans (S571 t (st572 t (S573 t (st574.trans (S575 t (st576 t (S577 t k))))))))))))))))))))))))))))))))))))
  obtain ⟨fs, hr, hrun, hended, hW, hsame⟩ := X576.leave (v := some (.int (1 : Int32))) (fun h => by rw [Bd.returns] at h; cases h)
  refine ⟨_, _, pre0 _ (C578 _ ?_), hrun, hended, _, _, rfl, ?_, ⟨_, rfl⟩, hW, hsame.mono (by decide) (by decide)⟩
  · exact retN X576 hx (t := .boolean) Bd.returns (by simp) (hb hby at_166) hr
  · show Q_rm0 Z k1 i1 v1 j1 w1 q1 h0 n0 _ T576.heap _
    rw [e576]
    exact ⟨rfl, N576⟩
set_option maxRecDepth 65536 in
set_option maxHeartbeats 40000000 in
theorem comes_1 {Post : Tables → Env → Array Value → State → Outcome → State → Prop} (hpost : ∀ tb e args s v u, (limb_1_1.after args s (.returned v) u = true ∧ limb_1_2.after args s (.returned v) u = true ∧ True) → FrameEnd s (.returned v) u (Jvm.fieldLocs frame_1_writes args s ++ Jvm.arrayLocs frame_1_arrays args s ++ Jvm.staticLocs frame_1_statics s) 16 128 → Post tb e args s (.returned v) u) :
    ArmFor flags0 classFile x code maxLocals ret World_1 tables_1 room_1 Calls_1 rest_1 Pre_1 Post := by
  intro l hfl _ _ p e ha hc hk s m args below hf hA hF happ hP
  obtain ⟨hcalls, hrest, hpre⟩ := hP
  obtain ⟨-, -, -, hnamed, -, -, -, hat⟩ := (Spec.applies_iff hf).mp happ
  obtain ⟨hg, hn⟩ := and_e (Cond.before_iff.mp (show (Jvm.Cond.and given_1 narrow_1).before args s = true from hpre))
  obtain ⟨gg1, gg2⟩ := and_e hg
  obtain ⟨gg3, gg4⟩ := and_e gg2
  obtain ⟨gg5, gg6⟩ := and_e gg4
  obtain ⟨gg7, gg8⟩ := and_e gg6
  obtain ⟨gg9, gg10⟩ := and_e gg8
  obtain ⟨gg11, gg12⟩ := and_e gg10
  obtain ⟨w0, w1, w2, w3, w4, w5, rfl⟩ : ∃ w0 w1 w2 w3 w4 w5 : Value, args = #[w0, w1, w2, w3, w4, w5] := by
    have hs : args.size = 6 := by simpa [Cond.value, given_1] using gg1
    obtain ⟨L⟩ := args
    match L, hs with
    | [w0, w1, w2, w3, w4, w5], _ => exact ⟨w0, w1, w2, w3, w4, w5, rfl⟩
  have hw := fun d (hd : d ∈ tables_1) => atoms_spec (ws := Jvm.Cond.code x code maxLocals ret :: tables_1) hat d (List.mem_cons_of_mem _ hd)
  have hfit : Fit s := fun {y c} hc i hi => by
    obtain ⟨ha, rfl⟩ := Array.getElem?_eq_some_iff.mp hc
    have q := List.all_eq_true.mp ((Array.all_eq_true_iff_forall_mem.mp hF) _ (Array.getElem_mem ha)) i (List.mem_range.mpr hi)
    simpa [Array.getElem?_eq_getElem hi] using q
  obtain ⟨i0, ei0⟩ := is_v gg3
  obtain rfl : w0 = (.int i0) := Option.some.inj ei0
  obtain ⟨i1, ei1⟩ := is_v gg5
  obtain rfl : w1 = (.int i1) := Option.some.inj ei1
  obtain ⟨i2, ei2⟩ := isL_v gg7
  obtain rfl : w2 = (.long i2) := Option.some.inj ei2
  obtain ⟨i3, ei3⟩ := is_v gg9
  obtain rfl : w3 = (.int i3) := Option.some.inj ei3
  obtain ⟨i4, ei4⟩ := isL_v gg11
  obtain rfl : w4 = (.long i4) := Option.some.inj ei4
  obtain ⟨i5, ei5⟩ := is_v gg12
  obtain rfl : w5 = (.int i5) := Option.some.inj ei5
  obtain ⟨n, o, h1, h2, h3, _, L, rfl, ⟨rfl, N⟩, hq⟩ := rm0 l s _ hw tables_1 i0 i1 i2 i3 i4 i5 s.heap s.heap.size (Nat.le_refl _)  p e ha hc hk s m _ below hf ((Spec.applies_iff_loose hf).mp happ).1 ⟨rfl, State.Warmed39.refl s, rfl⟩ trivial
  refine ⟨n, _, h1, h2, h3, hpost _ _ _ _ _ _ ⟨Cond.after_iff.mpr rfl, Cond.after_iff.mpr (eq_i res_at (Term.int_eval (1)) rfl), trivial⟩ ⟨hq.1, hq.2.1, (hq.2.2.sift fun y hy => Or.inr (N y hy)).mono (by decide) (by decide)⟩⟩
theorem main_1_1 : Claimed_1_1 := comes_1 fun _ _ _ _ _ _ h hF => ⟨h.1, hF⟩
theorem main_1_2 : Claimed_1_2 := comes_1 fun _ _ _ _ _ _ h hF => ⟨h.2.1, hF⟩
end Jvm.Pilot.@@N@@
namespace Jvm.Pilot.@@N@@
open Jvm Jvm.ClassFile Sem Op Lib Jvm.Free Jvm.Stand Jvm.Pilot.@@N@@.Jvm.D
/-! MADE BY PROGRAM (witnessworld.py) out of the Statement's table words and the real class files: 11 classes; the members and pool entries that the words name. The judged class is class 1, her method 3. -/
namespace start1
open Jvm.ClassFile
def u (s : String) : CpInfo := .utf8 (stringToUtf16 s)
/-- a pool by its gaps: so many unusable entries, then the entry; so many at the end -/
def gap : Nat → List CpInfo → List CpInfo
  | 0, r => r
  | n + 1, r => .unusable :: gap n r
def poolList (es : List (Nat × CpInfo)) (last : Nat) : List CpInfo := es.foldr (fun e r => gap e.1 (e.2 :: r)) (gap last [])
def pool (es : List (Nat × CpInfo)) (last : Nat) : Array CpInfo := ⟨poolList es last⟩
def fileOf (pool : Array CpInfo) (this : Nat) (attrs : Array Attribute := #[]) (ms : Array MethodInfo := #[]) (fl : Nat := 33) (sup : Nat := 0) (ifs : Array Nat := #[]) (fds : Array FieldInfo := #[]) : ClassFile where
  minorVersion := 0
  majorVersion := 65
  constantPool := pool
  accessFlags := fl
  thisClass := this
  superClass := sup
  interfaces := ifs
  fields := fds
  methods := ms
  attributes := attrs
def plain (name : String) (sup : Option ClassId) : Class where
  name := name
  kind := .ordinary
  loader := none
  accessFlags := 33
  super := sup
  interfaces := #[]
  cf := none
  fields := #[]
  methods := #[]
  instanceTypes := #[]
  staticTypes := #[]
  resolved := #[]
  callSites := []
  init := .initialized
  statics := none
  mirror := none

def pool0 : Array CpInfo := pool [(5, u "<init>"), (0, u "()V"), (1, .class_ 10), (1, u "java/lang/Object")] 113

def k0c0 : Code := { maxStack := 0, maxLocals := 1, code := object_method_1_code, exceptionTable := #[], attributes := #[] }
def k0m0 : Method := { name := "<init>", desc := "()V", sig := { parameters := [], returnType := none }, accessFlags := 1, code := some k0c0 }
/-- java/lang/Object -/
def k0 : Class := { plain "java/lang/Object" none with
  accessFlags := 33
  interfaces := #[]
  cf := some (fileOf pool0 8 #[] #[{ accessFlags := 1, nameIndex := 5, descriptorIndex := 6, attributes := #[] }] 33 0 #[] #[])
  fields := #[]
  methods := #[k0m0]
  instanceTypes := #[]
  staticTypes := #[]
  resolved := Array.replicate 124 none
  statics := none }

def pool1 : Array CpInfo := pool [(2, .class_ 4), (1, u "java/lang/Object"), (0, u "<init>"), (0, u "()V"), (0, .class_ 8), (0, u "com/example/totality/totality/core/Windows"), (0, .integer 2147483647), (0, .methodref 7 11), (0, .nameAndType 5 12), (0, u "(II)V"), (0, .methodref 7 14), (0, .nameAndType 15 16), (0, u "start"), (0, u "(I)J"), (0, .methodref 18 19), (0, .class_ 20), (0, .nameAndType 21 22), (0, u "com/example/totality/totality/core/WindowsStartPinLaw"), (0, u "pick"), (0, u "(II)I"), (0, .methodref 7 24), (0, .nameAndType 25 26), (0, u "set"), (0, u "(IJ)V"), (0, .methodref 18 28), (0, .nameAndType 29 30), (0, u "expect"), (0, u "(IIJIJ)J"), (3, u "law"), (0, u "(IIJIJI)Z")] 2

def k1m0 : Method := { name := "<init>", desc := "()V", sig := { parameters := [], returnType := none }, accessFlags := 1, code := none }
def k1c1 : Code := { maxStack := 3, maxLocals := 2, code := method_2_code, exceptionTable := #[], attributes := #[] }
def k1m1 : Method := { name := "pick", desc := "(II)I", sig := { parameters := [.int, .int], returnType := some .int }, accessFlags := 10, code := some k1c1 }
def k1c2 : Code := { maxStack := 2, maxLocals := 7, code := method_3_code, exceptionTable := #[], attributes := #[] }
def k1m2 : Method := { name := "expect", desc := "(IIJIJ)J", sig := { parameters := [.int, .int, .long, .int, .long], returnType := some .long }, accessFlags := 10, code := some k1c2 }
def k1c3 : Code := { maxStack := 9, maxLocals := 15, code := code, exceptionTable := #[], attributes := #[] }
def k1m3 : Method := { name := "law", desc := "(IIJIJI)Z", sig := { parameters := [.int, .int, .long, .int, .long, .int], returnType := some .boolean }, accessFlags := 9, code := some k1c3 }
/-- com/example/totality/totality/core/WindowsStartPinLaw -/
def k1 : Class := { plain "com/example/totality/totality/core/WindowsStartPinLaw" (some 0) with
  accessFlags := 49
  interfaces := #[]
  cf := some (fileOf pool1 18 #[] #[{ accessFlags := 1, nameIndex := 5, descriptorIndex := 6, attributes := #[] }, { accessFlags := 10, nameIndex := 21, descriptorIndex := 22, attributes := #[] }, { accessFlags := 10, nameIndex := 29, descriptorIndex := 30, attributes := #[] }, { accessFlags := 9, nameIndex := 34, descriptorIndex := 35, attributes := #[] }] 49 2 #[] #[])
  fields := #[]
  methods := #[k1m0, k1m1, k1m2, k1m3]
  instanceTypes := #[]
  staticTypes := #[]
  resolved := Array.replicate 38 none
  statics := none }

def pool2 : Array CpInfo := pool [(1, .methodref 2 3), (0, .class_ 4), (0, .nameAndType 5 6), (0, u "java/lang/Object"), (0, u "<init>"), (0, u "()V"), (0, .fieldref 8 9), (0, .class_ 10), (0, .nameAndType 11 12), (0, u "com/example/totality/totality/core/Windows"), (0, u "nodes"), (0, u "I"), (0, .fieldref 8 14), (0, .nameAndType 15 12), (0, u "self"), (2, .long 9223372036854775807), (1, .fieldref 8 21), (0, .nameAndType 22 23), (0, u "lowest"), (0, u "J"), (0, .fieldref 8 25), (0, .nameAndType 26 12), (0, u "atLowest"), (0, .fieldref 8 28), (0, .nameAndType 29 30), (0, u "starts"), (0, u "[J"), (0, .methodref 8 32), (0, .nameAndType 33 34), (0, u "start"), (0, u "(I)J"), (0, .methodref 8 36), (0, .nameAndType 37 6), (0, u "count"), (0, u "EVERY_NODE"), (2, u "(II)V"), (4, u "set"), (0, u "(IJ)V")] 2

def k2c0 : Code := { maxStack := 3, maxLocals := 4, code := prog_59_method_1_code, exceptionTable := #[], attributes := #[] }
def k2m0 : Method := { name := "<init>", desc := "(II)V", sig := { parameters := [.int, .int], returnType := none }, accessFlags := 0, code := some k2c0 }
def k2c1 : Code := { maxStack := 2, maxLocals := 2, code := prog_59_method_2_code, exceptionTable := #[], attributes := #[] }
def k2m1 : Method := { name := "start", desc := "(I)J", sig := { parameters := [.int], returnType := some .long }, accessFlags := 0, code := some k2c1 }
def k2c2 : Code := { maxStack := 4, maxLocals := 6, code := prog_59_method_4_code, exceptionTable := #[], attributes := #[] }
def k2m2 : Method := { name := "set", desc := "(IJ)V", sig := { parameters := [.int, .long], returnType := none }, accessFlags := 0, code := some k2c2 }
def k2c3 : Code := { maxStack := 4, maxLocals := 2, code := prog_59_method_5_code, exceptionTable := #[], attributes := #[] }
def k2m3 : Method := { name := "count", desc := "()V", sig := { parameters := [], returnType := none }, accessFlags := 2, code := some k2c3 }
/-- com/example/totality/totality/core/Windows -/
def k2 : Class := { plain "com/example/totality/totality/core/Windows" (some 0) with
  accessFlags := 48
  interfaces := #[]
  cf := some (fileOf pool2 8 #[] #[{ accessFlags := 0, nameIndex := 5, descriptorIndex := 41, attributes := #[] }, { accessFlags := 0, nameIndex := 33, descriptorIndex := 34, attributes := #[] }, { accessFlags := 0, nameIndex := 46, descriptorIndex := 47, attributes := #[] }, { accessFlags := 2, nameIndex := 37, descriptorIndex := 6, attributes := #[] }] 48 2 #[] #[{ accessFlags := 24, nameIndex := 38, descriptorIndex := 12, attributes := #[] }, { accessFlags := 18, nameIndex := 11, descriptorIndex := 12, attributes := #[] }, { accessFlags := 18, nameIndex := 15, descriptorIndex := 12, attributes := #[] }, { accessFlags := 2, nameIndex := 29, descriptorIndex := 30, attributes := #[] }, { accessFlags := 2, nameIndex := 22, descriptorIndex := 23, attributes := #[] }, { accessFlags := 2, nameIndex := 26, descriptorIndex := 12, attributes := #[] }])
  fields := #[{ name := "EVERY_NODE", type := .int, accessFlags := 24, slot := 0, constantValue := 0 }, { name := "nodes", type := .int, accessFlags := 18, slot := 0, constantValue := 0 }, { name := "self", type := .int, accessFlags := 18, slot := 1, constantValue := 0 }, { name := "starts", type := (.array .long), accessFlags := 2, slot := 2, constantValue := 0 }, { name := "lowest", type := .long, accessFlags := 2, slot := 3, constantValue := 0 }, { name := "atLowest", type := .int, accessFlags := 2, slot := 4, constantValue := 0 }]
  methods := #[k2m0, k2m1, k2m2, k2m3]
  instanceTypes := #[.int, .int, (.array .long), .long, .int]
  staticTypes := #[.int]
  resolved := Array.replicate 50 none
  statics := none }

def pool3 : Array CpInfo := pool [(1, u "java/lang/Cloneable"), (0, .class_ 1), (0, u "java/lang/Object"), (0, .class_ 3)] 3

/-- java/lang/Cloneable -/
def k3 : Class := { plain "java/lang/Cloneable" (some 0) with
  accessFlags := 1537
  interfaces := #[]
  cf := some (fileOf pool3 2 #[] #[] 1537 4 #[] #[])
  fields := #[]
  methods := #[]
  instanceTypes := #[]
  staticTypes := #[]
  resolved := Array.replicate 8 none
  statics := none }

def pool4 : Array CpInfo := pool [(1, u "java/io/Serializable"), (0, .class_ 1), (0, u "java/lang/Object"), (0, .class_ 3)] 3

/-- java/io/Serializable -/
def k4 : Class := { plain "java/io/Serializable" (some 0) with
  accessFlags := 1537
  interfaces := #[]
  cf := some (fileOf pool4 2 #[] #[] 1537 4 #[] #[])
  fields := #[]
  methods := #[]
  instanceTypes := #[]
  staticTypes := #[]
  resolved := Array.replicate 8 none
  statics := none }

/-- the primitive byte -/
def k5 : Class := { plain "byte" none with kind := .primitive 'B', accessFlags := 0x411 }
/-- [B -/
def k6 : Class := { plain "[B" (some 0) with kind := .array 5 .byte, interfaces := #[3, 4], accessFlags := 1041 }

/-- the primitive int -/
def k7 : Class := { plain "int" none with kind := .primitive 'I', accessFlags := 0x411 }
/-- [I -/
def k8 : Class := { plain "[I" (some 0) with kind := .array 7 .int, interfaces := #[3, 4], accessFlags := 1041 }

/-- the primitive long -/
def k9 : Class := { plain "long" none with kind := .primitive 'J', accessFlags := 0x411 }
/-- [J -/
def k10 : Class := { plain "[J" (some 0) with kind := .array 9 .long, interfaces := #[3, 4], accessFlags := 1041 }

def heap : Heap := #[]
def classes : Array Class := #[k0, k1, k2, k3, k4, k5, k6, k7, k8, k9, k10]
def interned : List (Array UInt16 × Addr) := []
def slotsUsed : Nat := 0
def theMethod : MethodId := ⟨1, 3⟩
def args0 : Array Value := #[.int 1, .int 2, .long 2, .int 1, .long 4, .int 5]
def aboutOver (below : List Frame) : State where
  vm := { classes := classes, interned := interned.toArray }
  heap := heap
  slotsUsed := slotsUsed
  threads := #[{ frames := .invoking theMethod args0 :: below }]
def below0 : List Frame := [.native { method := ⟨0, 0⟩, args := #[] }]
def about1 : State := aboutOver below0
def p0 : Program := .bare "" "" ""
def e0 : Env := launch0.env 0 0 0
theorem w_frames : about1.frames = Frame.invoking theMethod args0 :: below0 := rfl
set_option maxRecDepth 65536 in
theorem w_args : argsFit about1.vm theMethod args0 = true := by decide +kernel
set_option maxRecDepth 65536 in
theorem w_heap : heapFits about1 = true := by decide +kernel
set_option maxRecDepth 65536 in
theorem w_runnable : about1.curStatus? = some .runnable := by decide +kernel
set_option maxRecDepth 65536 in
theorem w_alone : about1.alone = true := by decide +kernel
set_option maxRecDepth 65536 in
theorem w_named : about1.methodNamed? x = some theMethod := by decide +kernel
set_option maxRecDepth 65536 in
theorem w_hears : about1.hears theMethod below0 = true := by decide +kernel
set_option maxRecDepth 65536 in
theorem w_ripe : about1.ripe theMethod args0 below0 = true := by decide +kernel
theorem w_running : about1.status = .running := rfl
set_option maxRecDepth 65536 in
theorem w_room : about1.hasRoom e0.platform room_1 = true :=
  launch0.hasRoom_least _ room_1 (by decide +kernel) (by decide +kernel) (by decide +kernel) (by decide +kernel) (by decide +kernel) (by decide +kernel)
theorem allAtoms_all (ts : List Jvm.Cond) (a : Array Jvm.Value) (st : Jvm.State) : (allAtoms ts).before a st = ts.all (fun c => c.before a st) := by
  induction ts with
  | nil => rfl
  | cons c t ih =>
    show (Jvm.Cond.and c (allAtoms t)).before a st = _
    rw [Jvm.Cond.before_and, ih, List.all_cons]
def words1 : List Jvm.Cond := Jvm.Cond.code x code maxLocals ret :: tables_1
/-- a 'code' word, met by the world's own term for the bytes: nothing is compared byte by byte -/
theorem code_word {y : MethodName} {bytes : ByteArray} {mx : Nat} {rt : Option FieldType} {a : Array Value} {s : State} {m : MethodId} {meth : Method} {c : Code} (h1 : s.methodNamed? y = some m) (h2 : s.vm.method? m = some meth) (h3 : meth.code = some c) (h4 : c.code = bytes)
    (h5 : (c.maxLocals == mx && c.exceptionTable.isEmpty && decide (c.maxStack ≤ mostOperands) && decide (meth.sig.returnType = rt) && !meth.locks && decide (parseMethodDescriptor y.desc = some meth.sig)) = true) : (Jvm.Cond.code y bytes mx rt).before a s = true := by
  simp only [Bool.and_eq_true, beq_iff_eq, Bool.not_eq_true', decide_eq_true_eq] at h5
  obtain ⟨⟨⟨⟨⟨g1, g2⟩, g3⟩, g4⟩, g5⟩, g6⟩ := h5
  simp [Cond.before, Cond.holds, Cond.value, h1, h2, h3, h4, g1, g2, g3, g4, g5, g6]
def isCode : Jvm.Cond → Bool
  | .code _ _ _ _ => true
  | _ => false
theorem all_split {L : List Jvm.Cond} {P : Jvm.Cond → Bool} (h1 : L.all (fun c => isCode c || P c) = true) (h2 : ∀ c ∈ L.filter isCode, P c = true) : L.all P = true := by
  refine List.all_eq_true.mpr fun c hc => ?_
  have h := List.all_eq_true.mp h1 c hc
  rcases Bool.eq_false_or_eq_true (isCode c) with hi | hi
  · exact h2 c (List.mem_filter.mpr ⟨hc, hi⟩)
  · simpa [hi] using h
set_option maxRecDepth 65536 in
theorem w_c0 : (Jvm.Cond.code x code maxLocals ret).before args0 about1 = true := code_word (m := ⟨1, 3⟩) (meth := k1m3) (c := k1c3) (by decide +kernel) rfl rfl rfl (by decide +kernel)
set_option maxRecDepth 65536 in
theorem w_c1 : (Jvm.Cond.code ({ cls := "com/example/totality/totality/core/Windows", name := "<init>", desc := "(II)V" } : Jvm.MethodName) prog_59_method_1_code (4 : Nat) (Option.none : Option Jvm.ClassFile.FieldType)).before args0 about1 = true := code_word (m := ⟨2, 0⟩) (meth := k2m0) (c := k2c0) (by decide +kernel) rfl rfl rfl (by decide +kernel)
set_option maxRecDepth 65536 in
theorem w_c2 : (Jvm.Cond.code ({ cls := "java/lang/Object", name := "<init>", desc := "()V" } : Jvm.MethodName) object_method_1_code (1 : Nat) (Option.none : Option Jvm.ClassFile.FieldType)).before args0 about1 = true := code_word (m := ⟨0, 0⟩) (meth := k0m0) (c := k0c0) (by decide +kernel) rfl rfl rfl (by decide +kernel)
set_option maxRecDepth 65536 in
theorem w_c3 : (Jvm.Cond.code ({ cls := "com/example/totality/totality/core/Windows", name := "start", desc := "(I)J" } : Jvm.MethodName) prog_59_method_2_code (2 : Nat) (Option.some Jvm.ClassFile.FieldType.long)).before args0 about1 = true := code_word (m := ⟨2, 1⟩) (meth := k2m1) (c := k2c1) (by decide +kernel) rfl rfl rfl (by decide +kernel)
set_option maxRecDepth 65536 in
theorem w_c4 : (Jvm.Cond.code ({ cls := "com/example/totality/totality/core/WindowsStartPinLaw", name := "pick", desc := "(II)I" } : Jvm.MethodName) method_2_code (2 : Nat) (Option.some Jvm.ClassFile.FieldType.int)).before args0 about1 = true := code_word (m := ⟨1, 1⟩) (meth := k1m1) (c := k1c1) (by decide +kernel) rfl rfl rfl (by decide +kernel)
set_option maxRecDepth 65536 in
theorem w_c5 : (Jvm.Cond.code ({ cls := "com/example/totality/totality/core/Windows", name := "set", desc := "(IJ)V" } : Jvm.MethodName) prog_59_method_4_code (6 : Nat) (Option.none : Option Jvm.ClassFile.FieldType)).before args0 about1 = true := code_word (m := ⟨2, 2⟩) (meth := k2m2) (c := k2c2) (by decide +kernel) rfl rfl rfl (by decide +kernel)
set_option maxRecDepth 65536 in
theorem w_c6 : (Jvm.Cond.code ({ cls := "com/example/totality/totality/core/WindowsStartPinLaw", name := "expect", desc := "(IIJIJ)J" } : Jvm.MethodName) method_3_code (7 : Nat) (Option.some Jvm.ClassFile.FieldType.long)).before args0 about1 = true := code_word (m := ⟨1, 2⟩) (meth := k1m2) (c := k1c2) (by decide +kernel) rfl rfl rfl (by decide +kernel)
set_option maxRecDepth 65536 in
theorem w_c7 : (Jvm.Cond.code ({ cls := "com/example/totality/totality/core/Windows", name := "count", desc := "()V" } : Jvm.MethodName) prog_59_method_5_code (2 : Nat) (Option.none : Option Jvm.ClassFile.FieldType)).before args0 about1 = true := code_word (m := ⟨2, 3⟩) (meth := k2m3) (c := k2c3) (by decide +kernel) rfl rfl rfl (by decide +kernel)
def codes1 : List Jvm.Cond := [Jvm.Cond.code x code maxLocals ret, Jvm.Cond.code ({ cls := "com/example/totality/totality/core/Windows", name := "<init>", desc := "(II)V" } : Jvm.MethodName) prog_59_method_1_code (4 : Nat) (Option.none : Option Jvm.ClassFile.FieldType), Jvm.Cond.code ({ cls := "java/lang/Object", name := "<init>", desc := "()V" } : Jvm.MethodName) object_method_1_code (1 : Nat) (Option.none : Option Jvm.ClassFile.FieldType), Jvm.Cond.code ({ cls := "com/example/totality/totality/core/Windows", name := "start", desc := "(I)J" } : Jvm.MethodName) prog_59_method_2_code (2 : Nat) (Option.some Jvm.ClassFile.FieldType.long), Jvm.Cond.code ({ cls := "com/example/totality/totality/core/WindowsStartPinLaw", name := "pick", desc := "(II)I" } : Jvm.MethodName) method_2_code (2 : Nat) (Option.some Jvm.ClassFile.FieldType.int), Jvm.Cond.code ({ cls := "com/example/totality/totality/core/Windows", name := "set", desc := "(IJ)V" } : Jvm.MethodName) prog_59_method_4_code (6 : Nat) (Option.none : Option Jvm.ClassFile.FieldType), Jvm.Cond.code ({ cls := "com/example/totality/totality/core/WindowsStartPinLaw", name := "expect", desc := "(IIJIJ)J" } : Jvm.MethodName) method_3_code (7 : Nat) (Option.some Jvm.ClassFile.FieldType.long), Jvm.Cond.code ({ cls := "com/example/totality/totality/core/Windows", name := "count", desc := "()V" } : Jvm.MethodName) prog_59_method_5_code (2 : Nat) (Option.none : Option Jvm.ClassFile.FieldType)]
set_option maxRecDepth 65536 in
theorem codes_eq : words1.filter isCode = codes1 := rfl
theorem w_codes : ∀ c ∈ words1.filter isCode, c.before args0 about1 = true := by
  rw [codes_eq]
  intro c hc
  simp only [codes1, List.mem_cons, List.not_mem_nil, or_false] at hc
  rcases hc with rfl | rfl | rfl | rfl | rfl | rfl | rfl | rfl
  · exact w_c0
  · exact w_c1
  · exact w_c2
  · exact w_c3
  · exact w_c4
  · exact w_c5
  · exact w_c6
  · exact w_c7
set_option maxRecDepth 65536 in
theorem w_t1 : (words1.take 24).all (fun c => isCode c || c.before args0 about1) = true := by decide +kernel
set_option maxRecDepth 65536 in
theorem w_t2 : (words1.drop 24).all (fun c => isCode c || c.before args0 about1) = true := by decide +kernel
theorem w_tables : (allAtoms (Jvm.Cond.code x code maxLocals ret :: tables_1)).before args0 about1 = true := by
  rw [allAtoms_all]
  show words1.all (fun c => c.before args0 about1) = true
  refine all_split ?_ w_codes
  rw [← List.take_append_drop 24 words1, List.all_append, w_t1, w_t2]
  rfl
set_option maxRecDepth 65536 in
theorem w_case : (Jvm.Cond.and given_1 narrow_1).before args0 about1 = true := by decide +kernel
theorem w_applies : (headSpec (Jvm.Cond.code x code maxLocals ret :: tables_1) room_1).applies x e0.platform about1 = true :=
  (Spec.applies_iff w_frames).mpr ⟨w_running, w_runnable, w_alone, w_named, w_hears, w_ripe, w_room, w_tables⟩
theorem atStart : AtStart classFile x code maxLocals ret World_1 tables_1 room_1 Calls_1 rest_1 Pre_1 launch0 p0 e0 about1 theMethod args0 below0 :=
  ⟨lists_1, trivial, launch0.admits_env _ _ _, launch0.least_env, fairChoices_fair.cas, fairChoices_fair.clock, w_frames, w_args, w_heap, w_applies, trivial, trivial, w_case⟩
end start1
theorem witness_1 : WitnessClaimed_1 := ⟨start1.p0, start1.e0, start1.about1, start1.theMethod, start1.args0, start1.below0, start1.atStart⟩
end Jvm.Pilot.@@N@@
