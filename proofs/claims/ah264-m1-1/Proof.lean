import JvmDerived
import JvmDerived.Pilot.@@N@@Statement
import JvmDerived.Pilot.@@N@@Code
set_option linter.unusedVariables false
set_option linter.unusedSimpArgs false
@@BLOCK:NumsL.lean.txt@@
namespace Jvm.RoadKit
theorem own_add32 {a b : Int32} (h1 : -2147483648 ≤ a.toInt + b.toInt) (h2 : a.toInt + b.toInt < 2147483648) : (a + b).toInt = a.toInt + b.toInt := by
  rw [Int32.toInt_add]; exact Int.bmod_eq_of_le (by omega) (by omega)
theorem own_sub32 {a b : Int32} (h1 : -2147483648 ≤ a.toInt - b.toInt) (h2 : a.toInt - b.toInt < 2147483648) : (a - b).toInt = a.toInt - b.toInt := by
  rw [Int32.toInt_sub]; exact Int.bmod_eq_of_le (by omega) (by omega)
theorem own_mul32 {a b : Int32} (h1 : -2147483648 ≤ a.toInt * b.toInt) (h2 : a.toInt * b.toInt < 2147483648) : (a * b).toInt = a.toInt * b.toInt := by
  rw [Int32.toInt_mul]; exact Int.bmod_eq_of_le (by omega) (by omega)
theorem own_add64 {a b : Int64} (h1 : -9223372036854775808 ≤ a.toInt + b.toInt) (h2 : a.toInt + b.toInt < 9223372036854775808) : (a + b).toInt = a.toInt + b.toInt := by
  rw [Int64.toInt_add]; exact Int.bmod_eq_of_le (by omega) (by omega)
theorem own_sub64 {a b : Int64} (h1 : -9223372036854775808 ≤ a.toInt - b.toInt) (h2 : a.toInt - b.toInt < 9223372036854775808) : (a - b).toInt = a.toInt - b.toInt := by
  rw [Int64.toInt_sub]; exact Int.bmod_eq_of_le (by omega) (by omega)
theorem own_mul64 {a b : Int64} (h1 : -9223372036854775808 ≤ a.toInt * b.toInt) (h2 : a.toInt * b.toInt < 9223372036854775808) : (a * b).toInt = a.toInt * b.toInt := by
  rw [Int64.toInt_mul]; exact Int.bmod_eq_of_le (by omega) (by omega)
/-- a mask that isn't negative -/
theorem own_mask32 (x k : Int32) (hk : 0 ≤ k.toInt) : 0 ≤ (x &&& k).toInt ∧ (x &&& k).toInt ≤ k.toInt := by
  have hk' : k.toBitVec.toNat < 2 ^ 31 := by
    have := k.toBitVec.isLt
    have e : k.toInt = k.toBitVec.toInt := rfl
    rw [e, BitVec.toInt_eq_toNat_cond] at hk
    split at hk <;> omega
  have h1 : (x &&& k).toInt = (x.toBitVec &&& k.toBitVec).toInt := rfl
  have h2 : (x.toBitVec &&& k.toBitVec).toNat ≤ k.toBitVec.toNat := by rw [BitVec.toNat_and]; exact Nat.and_le_right
  have e : k.toInt = k.toBitVec.toInt := rfl
  rw [h1, e, BitVec.toInt_eq_toNat_of_lt (by omega), BitVec.toInt_eq_toNat_of_lt (by omega)]; omega
theorem own_mask64 (x k : Int64) (hk : 0 ≤ k.toInt) : 0 ≤ (x &&& k).toInt ∧ (x &&& k).toInt ≤ k.toInt := by
  have hk' : k.toBitVec.toNat < 2 ^ 63 := by
    have := k.toBitVec.isLt
    have e : k.toInt = k.toBitVec.toInt := rfl
    rw [e, BitVec.toInt_eq_toNat_cond] at hk
    split at hk <;> omega
  have h1 : (x &&& k).toInt = (x.toBitVec &&& k.toBitVec).toInt := rfl
  have h2 : (x.toBitVec &&& k.toBitVec).toNat ≤ k.toBitVec.toNat := by rw [BitVec.toNat_and]; exact Nat.and_le_right
  have e : k.toInt = k.toBitVec.toInt := rfl
  rw [h1, e, BitVec.toInt_eq_toNat_of_lt (by omega), BitVec.toInt_eq_toNat_of_lt (by omega)]; omega
end Jvm.RoadKit
namespace Jvm.RoadKit
open Sem ClassFile Op Lib Jvm.Stand Jvm.Free Jvm.LawKit
section Own
variable {p : Program} {l : Launch} {e : Env} {R : Room} {s : State} {m : MethodId} {args : Array Value} {below : List Frame} {meth : Method} {c : Code} {T : State} {locs : List Loc} {cells slots : Nat} {Z : State} {h h' : Heap} {a b : Addr} {ty : FieldType} {n : Nat} {f f' : Nat → Value} {sl : Nat} {v : Value} {ws : List Addr}
/-- an array of n places, place i holds f i -/
def ArF (Z : State) (h : Heap) (a : Addr) (ty : FieldType) (n : Nat) (f : Nat → Value) : Prop := ∃ c : Cell, Arr Z h a c ty ∧ c.slots.size = n ∧ n < 2 ^ 31 ∧ ∀ i, i < n → c.slots[i]? = some (f i)
theorem ArF.lt (F : ArF Z h a ty n f) : a < h.size := by obtain ⟨c, A, -⟩ := F; exact A.lt
theorem ArF.ext (F : ArF Z h a ty n f) (E : Ext h h') : ArF Z h' a ty n f := by obtain ⟨c, A, r⟩ := F; exact ⟨c, A.ext E, r⟩
theorem ArF.other (F : ArF Z h a ty n f) (W : Wr h h' b sl v) (q : a ≠ b) : ArF Z h' a ty n f := by obtain ⟨c, A, r⟩ := F; exact ⟨c, A.other W q, r⟩
theorem ArF.keep (F : ArF Z h a ty n f) (K : Keep h h' ws) (q : a ∉ ws) : ArF Z h' a ty n f := by obtain ⟨c, A, r⟩ := F; exact ⟨c, ⟨K.2.1 a c A.1 q, A.2⟩, r⟩
theorem ArF.congr (F : ArF Z h a ty n f) (q : ∀ i, i < n → f i = f' i) : ArF Z h a ty n f' := by obtain ⟨c, A, r1, r2, r3⟩ := F; exact ⟨c, A, r1, r2, fun i hi => by rw [← q i hi]; exact r3 i hi⟩
theorem ArF.new {k : ClassId} {z : Int32} {dv : Value} (A : Arr Z h a (newA k ty z) ty) (q : ¬ z < 0) (hn : z.toNatClampNeg = n) (hdv : defaultValue ty = dv := by rfl) : ArF Z h a ty n (fun _ => dv) := by
  subst hn hdv
  refine ⟨_, A, sz_new _ _ _, (back32 q).2, fun i hi => ?_⟩
  simp [newA, hi]
theorem own_clamp {j : Int32} {i : Nat} (hj : j.toInt = (i : Int)) : j.toNatClampNeg = i := by
  show j.toInt.toNat = i
  rw [hj]; rfl
theorem own_inb {c : Cell} {j : Int32} {i : Nat} (S : c.slots.size = n) (hj : j.toInt = (i : Int)) (hi : i < n) : ¬ (j < 0 ∨ c.slots.size ≤ j.toNatClampNeg) := by
  rw [own_clamp hj, S]
  rintro (q | q)
  · rw [Int32.lt_iff_toInt_lt, hj] at q
    have : (0 : Int32).toInt = 0 := by decide
    omega
  · omega
theorem ArF.setW {i : Nat} {c : Cell} (A : Arr Z h a c ty) (S : c.slots.size = n) (q3 : n < 2 ^ 31) (H : ∀ k, k < n → c.slots[k]? = some (f k)) (W : Wr h h' a i v) : ArF Z h' a ty n (fun q => if q = i then v else f q) := by
  refine ⟨_, A.same W, by rw [sz_set, S], q3, fun k hk => ?_⟩
  by_cases e : k = i
  · subst e; simp [Cell.setSlot, S, hk]
  · simp only [if_neg e, Cell.setSlot]
    rw [Array.getElem?_setIfInBounds_ne (Ne.symm e)]; exact H k hk
theorem ArF.stI (X : Stand p l e R s m args below meth c T locs cells slots) (hx : p.tables.exec = Jvm.exec) (hZ : Z.Warmed39 s.vm) (eT : T.heap = h) (F : ArF Z h a .int n f) {j x : Int32} {i : Nat} (hj : j.toInt = (i : Int)) (hi : i < n) {g : JFrame} (hg : g.method = m) {rest : List Value} (hs : g.stack = .int x :: .int j :: .ref a :: rest) (hd : decode c.code g.pc = .ok (.iastore, 1)) :
    ∃ T' h', Stand p l e R s m args below meth c T' (locs ++ [⟨a, i⟩]) cells slots ∧ T'.heap = h' ∧ Wr h h' a i (.int x) ∧ ArF Z h' a .int n (fun q => if q = i then .int x else f q) ∧ ∀ target, Steps p.tables e below (T'.setTop { g with pc := g.pc + 1, stack := rest }) target → Steps p.tables e below (T.setTop g) target := by
  obtain ⟨c, A, S, q3, H⟩ := F
  obtain ⟨T', h', X', e', W, st⟩ := Jvm.RoadKit.stI X hx hZ eT A (own_inb S hj hi) hg hs hd
  rw [own_clamp hj] at X' W
  exact ⟨T', h', X', e', W, ArF.setW A S q3 H W, st⟩
theorem ArF.stJ (X : Stand p l e R s m args below meth c T locs cells slots) (hx : p.tables.exec = Jvm.exec) (hZ : Z.Warmed39 s.vm) (eT : T.heap = h) (F : ArF Z h a .long n f) {j : Int32} {x : Int64} {i : Nat} (hj : j.toInt = (i : Int)) (hi : i < n) {g : JFrame} (hg : g.method = m) {rest : List Value} (hs : g.stack = .long x :: .int j :: .ref a :: rest) (hd : decode c.code g.pc = .ok (.lastore, 1)) :
    ∃ T' h', Stand p l e R s m args below meth c T' (locs ++ [⟨a, i⟩]) cells slots ∧ T'.heap = h' ∧ Wr h h' a i (.long x) ∧ ArF Z h' a .long n (fun q => if q = i then .long x else f q) ∧ ∀ target, Steps p.tables e below (T'.setTop { g with pc := g.pc + 1, stack := rest }) target → Steps p.tables e below (T.setTop g) target := by
  obtain ⟨c, A, S, q3, H⟩ := F
  obtain ⟨T', h', X', e', W, st⟩ := Jvm.RoadKit.stJ X hx hZ eT A (own_inb S hj hi) hg hs hd
  rw [own_clamp hj] at X' W
  exact ⟨T', h', X', e', W, ArF.setW A S q3 H W, st⟩
theorem ArF.stB (X : Stand p l e R s m args below meth c T locs cells slots) (hx : p.tables.exec = Jvm.exec) (hZ : Z.Warmed39 s.vm) (eT : T.heap = h) (F : ArF Z h a .byte n f) {j x : Int32} {i : Nat} (hj : j.toInt = (i : Int)) (hi : i < n) {g : JFrame} (hg : g.method = m) {rest : List Value} (hs : g.stack = .int x :: .int j :: .ref a :: rest) (hd : decode c.code g.pc = .ok (.bastore, 1)) :
    ∃ T' h', Stand p l e R s m args below meth c T' (locs ++ [⟨a, i⟩]) cells slots ∧ T'.heap = h' ∧ Wr h h' a i (.int (nar .byte x)) ∧ ArF Z h' a .byte n (fun q => if q = i then .int (nar .byte x) else f q) ∧ ∀ target, Steps p.tables e below (T'.setTop { g with pc := g.pc + 1, stack := rest }) target → Steps p.tables e below (T.setTop g) target := by
  obtain ⟨c, A, S, q3, H⟩ := F
  obtain ⟨T', h', X', e', W, st⟩ := Jvm.RoadKit.stB X hx hZ eT A (own_inb S hj hi) hg hs hd
  rw [own_clamp hj] at X' W
  exact ⟨T', h', X', e', W, ArF.setW A S q3 H W, st⟩
theorem ArF.stC (X : Stand p l e R s m args below meth c T locs cells slots) (hx : p.tables.exec = Jvm.exec) (hZ : Z.Warmed39 s.vm) (eT : T.heap = h) (F : ArF Z h a .char n f) {j x : Int32} {i : Nat} (hj : j.toInt = (i : Int)) (hi : i < n) {g : JFrame} (hg : g.method = m) {rest : List Value} (hs : g.stack = .int x :: .int j :: .ref a :: rest) (hd : decode c.code g.pc = .ok (.castore, 1)) :
    ∃ T' h', Stand p l e R s m args below meth c T' (locs ++ [⟨a, i⟩]) cells slots ∧ T'.heap = h' ∧ Wr h h' a i (.int (nar .char x)) ∧ ArF Z h' a .char n (fun q => if q = i then .int (nar .char x) else f q) ∧ ∀ target, Steps p.tables e below (T'.setTop { g with pc := g.pc + 1, stack := rest }) target → Steps p.tables e below (T.setTop g) target := by
  obtain ⟨c, A, S, q3, H⟩ := F
  obtain ⟨T', h', X', e', W, st⟩ := Jvm.RoadKit.stC X hx hZ eT A (own_inb S hj hi) hg hs hd
  rw [own_clamp hj] at X' W
  exact ⟨T', h', X', e', W, ArF.setW A S q3 H W, st⟩
theorem ArF.ldI (X : Stand p l e R s m args below meth c T locs cells slots) (hx : p.tables.exec = Jvm.exec) (hZ : Z.Warmed39 s.vm) (eT : T.heap = h) (F : ArF Z h a .int n f) {j : Int32} {i : Nat} (hj : j.toInt = (i : Int)) (hi : i < n) {v : Int32} (hv : f i = .int v) {g : JFrame} (hg : g.method = m) {rest : List Value} (hs : g.stack = .int j :: .ref a :: rest) (hd : decode c.code g.pc = .ok (.iaload, 1)) :
    ∀ target, Steps p.tables e below (T.setTop { g with pc := g.pc + 1, stack := .int v :: rest }) target → Steps p.tables e below (T.setTop g) target := by
  obtain ⟨c, A, S, q3, H⟩ := F
  exact X.iaload hx (by rw [eT]; exact A.1) (State.isArrayOf_alike hZ.alike A.2.1) A.2.2 (own_inb S hj hi) (by rw [own_clamp hj, ← hv]; exact H i hi) hg hs hd
theorem ArF.ldJ (X : Stand p l e R s m args below meth c T locs cells slots) (hx : p.tables.exec = Jvm.exec) (hZ : Z.Warmed39 s.vm) (eT : T.heap = h) (F : ArF Z h a .long n f) {j : Int32} {i : Nat} (hj : j.toInt = (i : Int)) (hi : i < n) {v : Int64} (hv : f i = .long v) {g : JFrame} (hg : g.method = m) {rest : List Value} (hs : g.stack = .int j :: .ref a :: rest) (hd : decode c.code g.pc = .ok (.laload, 1)) :
    ∀ target, Steps p.tables e below (T.setTop { g with pc := g.pc + 1, stack := .long v :: rest }) target → Steps p.tables e below (T.setTop g) target := by
  obtain ⟨c, A, S, q3, H⟩ := F
  exact X.laload hx (by rw [eT]; exact A.1) (State.isArrayOf_alike hZ.alike A.2.1) A.2.2 (own_inb S hj hi) (by rw [own_clamp hj, ← hv]; exact H i hi) hg hs hd
theorem ArF.ldB (X : Stand p l e R s m args below meth c T locs cells slots) (hx : p.tables.exec = Jvm.exec) (hZ : Z.Warmed39 s.vm) (eT : T.heap = h) (F : ArF Z h a .byte n f) {j : Int32} {i : Nat} (hj : j.toInt = (i : Int)) (hi : i < n) {v : Int32} (hv : f i = .int v) {g : JFrame} (hg : g.method = m) {rest : List Value} (hs : g.stack = .int j :: .ref a :: rest) (hd : decode c.code g.pc = .ok (.baload, 1)) :
    ∀ target, Steps p.tables e below (T.setTop { g with pc := g.pc + 1, stack := .int v :: rest }) target → Steps p.tables e below (T.setTop g) target := by
  obtain ⟨c, A, S, q3, H⟩ := F
  exact X.baloadBytes hx (by rw [eT]; exact A.1) (State.isArrayOf_alike hZ.alike A.2.1) A.2.2 (own_inb S hj hi) (by rw [own_clamp hj, ← hv]; exact H i hi) hg hs hd
theorem ArF.ldC (X : Stand p l e R s m args below meth c T locs cells slots) (hx : p.tables.exec = Jvm.exec) (hZ : Z.Warmed39 s.vm) (eT : T.heap = h) (F : ArF Z h a .char n f) {j : Int32} {i : Nat} (hj : j.toInt = (i : Int)) (hi : i < n) {v : Int32} (hv : f i = .int v) {g : JFrame} (hg : g.method = m) {rest : List Value} (hs : g.stack = .int j :: .ref a :: rest) (hd : decode c.code g.pc = .ok (.caload, 1)) :
    ∀ target, Steps p.tables e below (T.setTop { g with pc := g.pc + 1, stack := .int v :: rest }) target → Steps p.tables e below (T.setTop g) target := by
  obtain ⟨c, A, S, q3, H⟩ := F
  exact X.caload hx (by rw [eT]; exact A.1) (State.isArrayOf_alike hZ.alike A.2.1) A.2.2 (own_inb S hj hi) (by rw [own_clamp hj, ← hv]; exact H i hi) hg hs hd
theorem ArF.len (X : Stand p l e R s m args below meth c T locs cells slots) (hx : p.tables.exec = Jvm.exec) (hZ : Z.Warmed39 s.vm) (eT : T.heap = h) (F : ArF Z h a ty n f) {g : JFrame} (hg : g.method = m) {rest : List Value} (hs : g.stack = .ref a :: rest) (hd : decode c.code g.pc = .ok (.arraylength, 1)) :
    ∀ target, Steps p.tables e below (T.setTop { g with pc := g.pc + 1, stack := .int (Int32.ofNat n) :: rest }) target → Steps p.tables e below (T.setTop g) target := by
  obtain ⟨c, A, S, q3, H⟩ := F
  have q := X.arraylength hx (by rw [eT]; exact A.1) (State.isArrayOf_alike hZ.alike A.2.1) hg hs hd
  rw [S] at q
  exact q
theorem own_more (X : Stand p l e R s m args below meth c T locs cells slots) {k n : Nat} (h1 : cells ≤ k) (h2 : slots ≤ n) : Stand p l e R s m args below meth c T locs k n :=
  { X with same := X.same.mono h1 h2 }
theorem own_selP {Z s : State} {a0 args : Array Value} {y : MethodName} {k : Nat} (hZ : Z.Warmed39 s.vm) (wi : (Cond.instantiable y.cls k).before a0 Z = true) (wp : (Cond.privateMethod y).before a0 Z = true) (wm : (Cond.instanceMethod y).before a0 Z = true) (hy : y.cls ≠ "java/lang/invoke/MethodHandle" ∧ y.cls ≠ "java/lang/invoke/VarHandle") : (Cond.selects y.cls y y).before args s = true := by
  have wi' : (Cond.instantiable y.cls k).before args s = true := mvT hZ wi
  obtain ⟨c, q, h1, h2, -, h4, -⟩ := Cond.instantiable_spec wi'
  simp only [Bool.or_eq_false_iff] at h4
  exact Jvm.Stand.selects_self_of_private h1 h2 h4.1 (Cond.privateMethod_at (mvP hZ wp (args := args))) (mvT hZ wm) hy
end Own
end Jvm.RoadKit
namespace Jvm.Pilot.@@N@@
open Jvm Jvm.ClassFile Sem Op Lib Jvm.Free Jvm.Stand Jvm.LawKit Jvm.RoadKit Bundle Jvm.Pilot.@@N@@.Jvm.D
theorem d1_0 : decode method_4_code 0 = .ok (.iload_n 0, 1) := by decide +kernel
theorem d1_1 : decode method_4_code 1 = .ok (.newarray .int, 2) := by decide +kernel
theorem d1_3 : decode method_4_code 3 = .ok (.astore 5, 2) := by decide +kernel
theorem d1_5 : decode method_4_code 5 = .ok (.aload 5, 2) := by decide +kernel
theorem d1_7 : decode method_4_code 7 = .ok (.iconst 0, 1) := by decide +kernel
theorem d1_8 : decode method_4_code 8 = .ok (.iload_n 1, 1) := by decide +kernel
theorem d1_9 : decode method_4_code 9 = .ok (.iconst 0, 1) := by decide +kernel
theorem d1_10 : decode method_4_code 10 = .ok (.invokestatic 9, 3) := by decide +kernel
theorem d1_13 : decode method_4_code 13 = .ok (.iload_n 2, 1) := by decide +kernel
theorem d1_14 : decode method_4_code 14 = .ok (.iload_n 3, 1) := by decide +kernel
theorem d1_15 : decode method_4_code 15 = .ok (.iload 4, 2) := by decide +kernel
theorem d1_17 : decode method_4_code 17 = .ok (.invokestatic 15, 3) := by decide +kernel
theorem d1_20 : decode method_4_code 20 = .ok (.iastore, 1) := by decide +kernel
theorem d1_21 : decode method_4_code 21 = .ok (.aload 5, 2) := by decide +kernel
theorem d1_23 : decode method_4_code 23 = .ok (.iconst 1, 1) := by decide +kernel
theorem d1_24 : decode method_4_code 24 = .ok (.iload_n 1, 1) := by decide +kernel
theorem d1_25 : decode method_4_code 25 = .ok (.iconst 1, 1) := by decide +kernel
theorem d1_26 : decode method_4_code 26 = .ok (.invokestatic 9, 3) := by decide +kernel
theorem d1_29 : decode method_4_code 29 = .ok (.iload_n 2, 1) := by decide +kernel
theorem d1_30 : decode method_4_code 30 = .ok (.iload_n 3, 1) := by decide +kernel
theorem d1_31 : decode method_4_code 31 = .ok (.iload 4, 2) := by decide +kernel
theorem d1_33 : decode method_4_code 33 = .ok (.invokestatic 15, 3) := by decide +kernel
theorem d1_36 : decode method_4_code 36 = .ok (.iastore, 1) := by decide +kernel
theorem d1_37 : decode method_4_code 37 = .ok (.iload_n 0, 1) := by decide +kernel
theorem d1_38 : decode method_4_code 38 = .ok (.iconst 2, 1) := by decide +kernel
theorem d1_39 : decode method_4_code 39 = .ok (.if_icmp .le 35, 3) := by decide +kernel
theorem d1_42 : decode method_4_code 42 = .ok (.aload 5, 2) := by decide +kernel
theorem d1_44 : decode method_4_code 44 = .ok (.iconst 2, 1) := by decide +kernel
theorem d1_45 : decode method_4_code 45 = .ok (.iload_n 1, 1) := by decide +kernel
theorem d1_46 : decode method_4_code 46 = .ok (.iconst 2, 1) := by decide +kernel
theorem d1_47 : decode method_4_code 47 = .ok (.invokestatic 9, 3) := by decide +kernel
theorem d1_50 : decode method_4_code 50 = .ok (.iload_n 2, 1) := by decide +kernel
theorem d1_51 : decode method_4_code 51 = .ok (.iload_n 3, 1) := by decide +kernel
theorem d1_52 : decode method_4_code 52 = .ok (.iload 4, 2) := by decide +kernel
theorem d1_54 : decode method_4_code 54 = .ok (.invokestatic 15, 3) := by decide +kernel
theorem d1_57 : decode method_4_code 57 = .ok (.iastore, 1) := by decide +kernel
theorem d1_58 : decode method_4_code 58 = .ok (.aload 5, 2) := by decide +kernel
theorem d1_60 : decode method_4_code 60 = .ok (.iconst 3, 1) := by decide +kernel
theorem d1_61 : decode method_4_code 61 = .ok (.iload_n 1, 1) := by decide +kernel
theorem d1_62 : decode method_4_code 62 = .ok (.iconst 3, 1) := by decide +kernel
theorem d1_63 : decode method_4_code 63 = .ok (.invokestatic 9, 3) := by decide +kernel
theorem d1_66 : decode method_4_code 66 = .ok (.iload_n 2, 1) := by decide +kernel
theorem d1_67 : decode method_4_code 67 = .ok (.iload_n 3, 1) := by decide +kernel
theorem d1_68 : decode method_4_code 68 = .ok (.iload 4, 2) := by decide +kernel
theorem d1_70 : decode method_4_code 70 = .ok (.invokestatic 15, 3) := by decide +kernel
theorem d1_73 : decode method_4_code 73 = .ok (.iastore, 1) := by decide +kernel
theorem d1_74 : decode method_4_code 74 = .ok (.iload_n 0, 1) := by decide +kernel
theorem d1_75 : decode method_4_code 75 = .ok (.iconst 4, 1) := by decide +kernel
theorem d1_76 : decode method_4_code 76 = .ok (.if_icmp .le 71, 3) := by decide +kernel
theorem d1_79 : decode method_4_code 79 = .ok (.aload 5, 2) := by decide +kernel
theorem d1_81 : decode method_4_code 81 = .ok (.iconst 4, 1) := by decide +kernel
theorem d1_82 : decode method_4_code 82 = .ok (.iload_n 1, 1) := by decide +kernel
theorem d1_83 : decode method_4_code 83 = .ok (.iconst 4, 1) := by decide +kernel
theorem d1_84 : decode method_4_code 84 = .ok (.invokestatic 9, 3) := by decide +kernel
theorem d1_87 : decode method_4_code 87 = .ok (.iload_n 2, 1) := by decide +kernel
theorem d1_88 : decode method_4_code 88 = .ok (.iload_n 3, 1) := by decide +kernel
theorem d1_89 : decode method_4_code 89 = .ok (.iload 4, 2) := by decide +kernel
theorem d1_91 : decode method_4_code 91 = .ok (.invokestatic 15, 3) := by decide +kernel
theorem d1_94 : decode method_4_code 94 = .ok (.iastore, 1) := by decide +kernel
theorem d1_95 : decode method_4_code 95 = .ok (.aload 5, 2) := by decide +kernel
theorem d1_97 : decode method_4_code 97 = .ok (.iconst 5, 1) := by decide +kernel
theorem d1_98 : decode method_4_code 98 = .ok (.iload_n 1, 1) := by decide +kernel
theorem d1_99 : decode method_4_code 99 = .ok (.iconst 5, 1) := by decide +kernel
theorem d1_100 : decode method_4_code 100 = .ok (.invokestatic 9, 3) := by decide +kernel
theorem d1_103 : decode method_4_code 103 = .ok (.iload_n 2, 1) := by decide +kernel
theorem d1_104 : decode method_4_code 104 = .ok (.iload_n 3, 1) := by decide +kernel
theorem d1_105 : decode method_4_code 105 = .ok (.iload 4, 2) := by decide +kernel
theorem d1_107 : decode method_4_code 107 = .ok (.invokestatic 15, 3) := by decide +kernel
theorem d1_110 : decode method_4_code 110 = .ok (.iastore, 1) := by decide +kernel
theorem d1_111 : decode method_4_code 111 = .ok (.aload 5, 2) := by decide +kernel
theorem d1_113 : decode method_4_code 113 = .ok (.bipush 6, 2) := by decide +kernel
theorem d1_115 : decode method_4_code 115 = .ok (.iload_n 1, 1) := by decide +kernel
theorem d1_116 : decode method_4_code 116 = .ok (.bipush 6, 2) := by decide +kernel
theorem d1_118 : decode method_4_code 118 = .ok (.invokestatic 9, 3) := by decide +kernel
theorem d1_121 : decode method_4_code 121 = .ok (.iload_n 2, 1) := by decide +kernel
theorem d1_122 : decode method_4_code 122 = .ok (.iload_n 3, 1) := by decide +kernel
theorem d1_123 : decode method_4_code 123 = .ok (.iload 4, 2) := by decide +kernel
theorem d1_125 : decode method_4_code 125 = .ok (.invokestatic 15, 3) := by decide +kernel
theorem d1_128 : decode method_4_code 128 = .ok (.iastore, 1) := by decide +kernel
theorem d1_129 : decode method_4_code 129 = .ok (.aload 5, 2) := by decide +kernel
theorem d1_131 : decode method_4_code 131 = .ok (.bipush 7, 2) := by decide +kernel
theorem d1_133 : decode method_4_code 133 = .ok (.iload_n 1, 1) := by decide +kernel
theorem d1_134 : decode method_4_code 134 = .ok (.bipush 7, 2) := by decide +kernel
theorem d1_136 : decode method_4_code 136 = .ok (.invokestatic 9, 3) := by decide +kernel
theorem d1_139 : decode method_4_code 139 = .ok (.iload_n 2, 1) := by decide +kernel
theorem d1_140 : decode method_4_code 140 = .ok (.iload_n 3, 1) := by decide +kernel
theorem d1_141 : decode method_4_code 141 = .ok (.iload 4, 2) := by decide +kernel
theorem d1_143 : decode method_4_code 143 = .ok (.invokestatic 15, 3) := by decide +kernel
theorem d1_146 : decode method_4_code 146 = .ok (.iastore, 1) := by decide +kernel
theorem d1_147 : decode method_4_code 147 = .ok (.aload 5, 2) := by decide +kernel
theorem d1_149 : decode method_4_code 149 = .ok (.areturn, 1) := by decide +kernel
theorem d2_0 : decode method_2_code 0 = .ok (.iload_n 0, 1) := by decide +kernel
theorem d2_1 : decode method_2_code 1 = .ok (.iconst 2, 1) := by decide +kernel
theorem d2_2 : decode method_2_code 2 = .ok (.iload_n 1, 1) := by decide +kernel
theorem d2_3 : decode method_2_code 3 = .ok (.imul, 1) := by decide +kernel
theorem d2_4 : decode method_2_code 4 = .ok (.iushr, 1) := by decide +kernel
theorem d2_5 : decode method_2_code 5 = .ok (.iconst 3, 1) := by decide +kernel
theorem d2_6 : decode method_2_code 6 = .ok (.iand, 1) := by decide +kernel
theorem d2_7 : decode method_2_code 7 = .ok (.ireturn, 1) := by decide +kernel
theorem d3_0 : decode method_3_code 0 = .ok (.iload_n 0, 1) := by decide +kernel
theorem d3_1 : decode method_3_code 1 = .ok (.ifCond .ne 5, 3) := by decide +kernel
theorem d3_4 : decode method_3_code 4 = .ok (.iconst (-1), 1) := by decide +kernel
theorem d3_5 : decode method_3_code 5 = .ok (.ireturn, 1) := by decide +kernel
theorem d3_6 : decode method_3_code 6 = .ok (.iload_n 0, 1) := by decide +kernel
theorem d3_7 : decode method_3_code 7 = .ok (.iconst 1, 1) := by decide +kernel
theorem d3_8 : decode method_3_code 8 = .ok (.if_icmp .ne 5, 3) := by decide +kernel
theorem d3_11 : decode method_3_code 11 = .ok (.iload_n 1, 1) := by decide +kernel
theorem d3_12 : decode method_3_code 12 = .ok (.ireturn, 1) := by decide +kernel
theorem d3_13 : decode method_3_code 13 = .ok (.iload_n 0, 1) := by decide +kernel
theorem d3_14 : decode method_3_code 14 = .ok (.iconst 2, 1) := by decide +kernel
theorem d3_15 : decode method_3_code 15 = .ok (.if_icmp .ne 5, 3) := by decide +kernel
theorem d3_18 : decode method_3_code 18 = .ok (.iload_n 2, 1) := by decide +kernel
theorem d3_19 : decode method_3_code 19 = .ok (.ireturn, 1) := by decide +kernel
theorem d3_20 : decode method_3_code 20 = .ok (.iload_n 3, 1) := by decide +kernel
theorem d3_21 : decode method_3_code 21 = .ok (.ireturn, 1) := by decide +kernel
theorem d4_0 : decode prog_50_method_5_code 0 = .ok (.aload_n 0, 1) := by decide +kernel
theorem d4_1 : decode prog_50_method_5_code 1 = .ok (.arraylength, 1) := by decide +kernel
theorem d4_2 : decode prog_50_method_5_code 2 = .ok (.iconst 1, 1) := by decide +kernel
theorem d4_3 : decode prog_50_method_5_code 3 = .ok (.isub, 1) := by decide +kernel
theorem d4_4 : decode prog_50_method_5_code 4 = .ok (.istore_n 2, 1) := by decide +kernel
theorem d4_5 : decode prog_50_method_5_code 5 = .ok (.iload_n 1, 1) := by decide +kernel
theorem d4_6 : decode prog_50_method_5_code 6 = .ok (.ldc 19, 2) := by decide +kernel
theorem d4_8 : decode prog_50_method_5_code 8 = .ok (.imul, 1) := by decide +kernel
theorem d4_9 : decode prog_50_method_5_code 9 = .ok (.istore_n 3, 1) := by decide +kernel
theorem d4_10 : decode prog_50_method_5_code 10 = .ok (.iload_n 3, 1) := by decide +kernel
theorem d4_11 : decode prog_50_method_5_code 11 = .ok (.iload_n 3, 1) := by decide +kernel
theorem d4_12 : decode prog_50_method_5_code 12 = .ok (.bipush 16, 2) := by decide +kernel
theorem d4_14 : decode prog_50_method_5_code 14 = .ok (.iushr, 1) := by decide +kernel
theorem d4_15 : decode prog_50_method_5_code 15 = .ok (.ixor, 1) := by decide +kernel
theorem d4_16 : decode prog_50_method_5_code 16 = .ok (.iload_n 2, 1) := by decide +kernel
theorem d4_17 : decode prog_50_method_5_code 17 = .ok (.iand, 1) := by decide +kernel
theorem d4_18 : decode prog_50_method_5_code 18 = .ok (.istore 4, 2) := by decide +kernel
theorem d4_20 : decode prog_50_method_5_code 20 = .ok (.aload_n 0, 1) := by decide +kernel
theorem d4_21 : decode prog_50_method_5_code 21 = .ok (.iload 4, 2) := by decide +kernel
theorem d4_23 : decode prog_50_method_5_code 23 = .ok (.iaload, 1) := by decide +kernel
theorem d4_24 : decode prog_50_method_5_code 24 = .ok (.iconst (-1), 1) := by decide +kernel
theorem d4_25 : decode prog_50_method_5_code 25 = .ok (.if_icmp .eq 22, 3) := by decide +kernel
theorem d4_28 : decode prog_50_method_5_code 28 = .ok (.aload_n 0, 1) := by decide +kernel
theorem d4_29 : decode prog_50_method_5_code 29 = .ok (.iload 4, 2) := by decide +kernel
theorem d4_31 : decode prog_50_method_5_code 31 = .ok (.iaload, 1) := by decide +kernel
theorem d4_32 : decode prog_50_method_5_code 32 = .ok (.iload_n 1, 1) := by decide +kernel
theorem d4_33 : decode prog_50_method_5_code 33 = .ok (.if_icmp .eq 14, 3) := by decide +kernel
theorem d4_36 : decode prog_50_method_5_code 36 = .ok (.iload 4, 2) := by decide +kernel
theorem d4_38 : decode prog_50_method_5_code 38 = .ok (.iconst 1, 1) := by decide +kernel
theorem d4_39 : decode prog_50_method_5_code 39 = .ok (.iadd, 1) := by decide +kernel
theorem d4_40 : decode prog_50_method_5_code 40 = .ok (.iload_n 2, 1) := by decide +kernel
theorem d4_41 : decode prog_50_method_5_code 41 = .ok (.iand, 1) := by decide +kernel
theorem d4_42 : decode prog_50_method_5_code 42 = .ok (.istore 4, 2) := by decide +kernel
theorem d4_44 : decode prog_50_method_5_code 44 = .ok (.goto (-24), 3) := by decide +kernel
theorem d4_47 : decode prog_50_method_5_code 47 = .ok (.iload 4, 2) := by decide +kernel
theorem d4_49 : decode prog_50_method_5_code 49 = .ok (.ireturn, 1) := by decide +kernel
theorem d5_0 : decode method_6_code 0 = .ok (.aload_n 0, 1) := by decide +kernel
theorem d5_1 : decode method_6_code 1 = .ok (.arraylength, 1) := by decide +kernel
theorem d5_2 : decode method_6_code 2 = .ok (.iconst 1, 1) := by decide +kernel
theorem d5_3 : decode method_6_code 3 = .ok (.isub, 1) := by decide +kernel
theorem d5_4 : decode method_6_code 4 = .ok (.istore_n 3, 1) := by decide +kernel
theorem d5_5 : decode method_6_code 5 = .ok (.aload_n 0, 1) := by decide +kernel
theorem d5_6 : decode method_6_code 6 = .ok (.iload_n 1, 1) := by decide +kernel
theorem d5_7 : decode method_6_code 7 = .ok (.iload_n 2, 1) := by decide +kernel
theorem d5_8 : decode method_6_code 8 = .ok (.iload_n 3, 1) := by decide +kernel
theorem d5_9 : decode method_6_code 9 = .ok (.iand, 1) := by decide +kernel
theorem d5_10 : decode method_6_code 10 = .ok (.invokestatic 19, 3) := by decide +kernel
theorem d5_13 : decode method_6_code 13 = .ok (.ifCond .eq 7, 3) := by decide +kernel
theorem d5_16 : decode method_6_code 16 = .ok (.iload_n 2, 1) := by decide +kernel
theorem d5_17 : decode method_6_code 17 = .ok (.iload_n 3, 1) := by decide +kernel
theorem d5_18 : decode method_6_code 18 = .ok (.iand, 1) := by decide +kernel
theorem d5_19 : decode method_6_code 19 = .ok (.ireturn, 1) := by decide +kernel
theorem d5_20 : decode method_6_code 20 = .ok (.aload_n 0, 1) := by decide +kernel
theorem d5_21 : decode method_6_code 21 = .ok (.iload_n 1, 1) := by decide +kernel
theorem d5_22 : decode method_6_code 22 = .ok (.iload_n 2, 1) := by decide +kernel
theorem d5_23 : decode method_6_code 23 = .ok (.iconst 1, 1) := by decide +kernel
theorem d5_24 : decode method_6_code 24 = .ok (.iadd, 1) := by decide +kernel
theorem d5_25 : decode method_6_code 25 = .ok (.iload_n 3, 1) := by decide +kernel
theorem d5_26 : decode method_6_code 26 = .ok (.iand, 1) := by decide +kernel
theorem d5_27 : decode method_6_code 27 = .ok (.invokestatic 19, 3) := by decide +kernel
theorem d5_30 : decode method_6_code 30 = .ok (.ifCond .eq 9, 3) := by decide +kernel
theorem d5_33 : decode method_6_code 33 = .ok (.iload_n 2, 1) := by decide +kernel
theorem d5_34 : decode method_6_code 34 = .ok (.iconst 1, 1) := by decide +kernel
theorem d5_35 : decode method_6_code 35 = .ok (.iadd, 1) := by decide +kernel
theorem d5_36 : decode method_6_code 36 = .ok (.iload_n 3, 1) := by decide +kernel
theorem d5_37 : decode method_6_code 37 = .ok (.iand, 1) := by decide +kernel
theorem d5_38 : decode method_6_code 38 = .ok (.ireturn, 1) := by decide +kernel
theorem d5_39 : decode method_6_code 39 = .ok (.aload_n 0, 1) := by decide +kernel
theorem d5_40 : decode method_6_code 40 = .ok (.iload_n 1, 1) := by decide +kernel
theorem d5_41 : decode method_6_code 41 = .ok (.iload_n 2, 1) := by decide +kernel
theorem d5_42 : decode method_6_code 42 = .ok (.iconst 2, 1) := by decide +kernel
theorem d5_43 : decode method_6_code 43 = .ok (.iadd, 1) := by decide +kernel
theorem d5_44 : decode method_6_code 44 = .ok (.iload_n 3, 1) := by decide +kernel
theorem d5_45 : decode method_6_code 45 = .ok (.iand, 1) := by decide +kernel
theorem d5_46 : decode method_6_code 46 = .ok (.invokestatic 19, 3) := by decide +kernel
theorem d5_49 : decode method_6_code 49 = .ok (.ifCond .eq 9, 3) := by decide +kernel
theorem d5_52 : decode method_6_code 52 = .ok (.iload_n 2, 1) := by decide +kernel
theorem d5_53 : decode method_6_code 53 = .ok (.iconst 2, 1) := by decide +kernel
theorem d5_54 : decode method_6_code 54 = .ok (.iadd, 1) := by decide +kernel
theorem d5_55 : decode method_6_code 55 = .ok (.iload_n 3, 1) := by decide +kernel
theorem d5_56 : decode method_6_code 56 = .ok (.iand, 1) := by decide +kernel
theorem d5_57 : decode method_6_code 57 = .ok (.ireturn, 1) := by decide +kernel
theorem d5_58 : decode method_6_code 58 = .ok (.aload_n 0, 1) := by decide +kernel
theorem d5_59 : decode method_6_code 59 = .ok (.iload_n 1, 1) := by decide +kernel
theorem d5_60 : decode method_6_code 60 = .ok (.iload_n 2, 1) := by decide +kernel
theorem d5_61 : decode method_6_code 61 = .ok (.iconst 3, 1) := by decide +kernel
theorem d5_62 : decode method_6_code 62 = .ok (.iadd, 1) := by decide +kernel
theorem d5_63 : decode method_6_code 63 = .ok (.iload_n 3, 1) := by decide +kernel
theorem d5_64 : decode method_6_code 64 = .ok (.iand, 1) := by decide +kernel
theorem d5_65 : decode method_6_code 65 = .ok (.invokestatic 19, 3) := by decide +kernel
theorem d5_68 : decode method_6_code 68 = .ok (.ifCond .eq 9, 3) := by decide +kernel
theorem d5_71 : decode method_6_code 71 = .ok (.iload_n 2, 1) := by decide +kernel
theorem d5_72 : decode method_6_code 72 = .ok (.iconst 3, 1) := by decide +kernel
theorem d5_73 : decode method_6_code 73 = .ok (.iadd, 1) := by decide +kernel
theorem d5_74 : decode method_6_code 74 = .ok (.iload_n 3, 1) := by decide +kernel
theorem d5_75 : decode method_6_code 75 = .ok (.iand, 1) := by decide +kernel
theorem d5_76 : decode method_6_code 76 = .ok (.ireturn, 1) := by decide +kernel
theorem d5_77 : decode method_6_code 77 = .ok (.aload_n 0, 1) := by decide +kernel
theorem d5_78 : decode method_6_code 78 = .ok (.iload_n 1, 1) := by decide +kernel
theorem d5_79 : decode method_6_code 79 = .ok (.iload_n 2, 1) := by decide +kernel
theorem d5_80 : decode method_6_code 80 = .ok (.iconst 4, 1) := by decide +kernel
theorem d5_81 : decode method_6_code 81 = .ok (.iadd, 1) := by decide +kernel
theorem d5_82 : decode method_6_code 82 = .ok (.iload_n 3, 1) := by decide +kernel
theorem d5_83 : decode method_6_code 83 = .ok (.iand, 1) := by decide +kernel
theorem d5_84 : decode method_6_code 84 = .ok (.invokestatic 19, 3) := by decide +kernel
theorem d5_87 : decode method_6_code 87 = .ok (.ifCond .eq 9, 3) := by decide +kernel
theorem d5_90 : decode method_6_code 90 = .ok (.iload_n 2, 1) := by decide +kernel
theorem d5_91 : decode method_6_code 91 = .ok (.iconst 4, 1) := by decide +kernel
theorem d5_92 : decode method_6_code 92 = .ok (.iadd, 1) := by decide +kernel
theorem d5_93 : decode method_6_code 93 = .ok (.iload_n 3, 1) := by decide +kernel
theorem d5_94 : decode method_6_code 94 = .ok (.iand, 1) := by decide +kernel
theorem d5_95 : decode method_6_code 95 = .ok (.ireturn, 1) := by decide +kernel
theorem d5_96 : decode method_6_code 96 = .ok (.aload_n 0, 1) := by decide +kernel
theorem d5_97 : decode method_6_code 97 = .ok (.iload_n 1, 1) := by decide +kernel
theorem d5_98 : decode method_6_code 98 = .ok (.iload_n 2, 1) := by decide +kernel
theorem d5_99 : decode method_6_code 99 = .ok (.iconst 5, 1) := by decide +kernel
theorem d5_100 : decode method_6_code 100 = .ok (.iadd, 1) := by decide +kernel
theorem d5_101 : decode method_6_code 101 = .ok (.iload_n 3, 1) := by decide +kernel
theorem d5_102 : decode method_6_code 102 = .ok (.iand, 1) := by decide +kernel
theorem d5_103 : decode method_6_code 103 = .ok (.invokestatic 19, 3) := by decide +kernel
theorem d5_106 : decode method_6_code 106 = .ok (.ifCond .eq 9, 3) := by decide +kernel
theorem d5_109 : decode method_6_code 109 = .ok (.iload_n 2, 1) := by decide +kernel
theorem d5_110 : decode method_6_code 110 = .ok (.iconst 5, 1) := by decide +kernel
theorem d5_111 : decode method_6_code 111 = .ok (.iadd, 1) := by decide +kernel
theorem d5_112 : decode method_6_code 112 = .ok (.iload_n 3, 1) := by decide +kernel
theorem d5_113 : decode method_6_code 113 = .ok (.iand, 1) := by decide +kernel
theorem d5_114 : decode method_6_code 114 = .ok (.ireturn, 1) := by decide +kernel
theorem d5_115 : decode method_6_code 115 = .ok (.aload_n 0, 1) := by decide +kernel
theorem d5_116 : decode method_6_code 116 = .ok (.iload_n 1, 1) := by decide +kernel
theorem d5_117 : decode method_6_code 117 = .ok (.iload_n 2, 1) := by decide +kernel
theorem d5_118 : decode method_6_code 118 = .ok (.bipush 6, 2) := by decide +kernel
theorem d5_120 : decode method_6_code 120 = .ok (.iadd, 1) := by decide +kernel
theorem d5_121 : decode method_6_code 121 = .ok (.iload_n 3, 1) := by decide +kernel
theorem d5_122 : decode method_6_code 122 = .ok (.iand, 1) := by decide +kernel
theorem d5_123 : decode method_6_code 123 = .ok (.invokestatic 19, 3) := by decide +kernel
theorem d5_126 : decode method_6_code 126 = .ok (.ifCond .eq 10, 3) := by decide +kernel
theorem d5_129 : decode method_6_code 129 = .ok (.iload_n 2, 1) := by decide +kernel
theorem d5_130 : decode method_6_code 130 = .ok (.bipush 6, 2) := by decide +kernel
theorem d5_132 : decode method_6_code 132 = .ok (.iadd, 1) := by decide +kernel
theorem d5_133 : decode method_6_code 133 = .ok (.iload_n 3, 1) := by decide +kernel
theorem d5_134 : decode method_6_code 134 = .ok (.iand, 1) := by decide +kernel
theorem d5_135 : decode method_6_code 135 = .ok (.ireturn, 1) := by decide +kernel
theorem d5_136 : decode method_6_code 136 = .ok (.aload_n 0, 1) := by decide +kernel
theorem d5_137 : decode method_6_code 137 = .ok (.iload_n 1, 1) := by decide +kernel
theorem d5_138 : decode method_6_code 138 = .ok (.iload_n 2, 1) := by decide +kernel
theorem d5_139 : decode method_6_code 139 = .ok (.bipush 7, 2) := by decide +kernel
theorem d5_141 : decode method_6_code 141 = .ok (.iadd, 1) := by decide +kernel
theorem d5_142 : decode method_6_code 142 = .ok (.iload_n 3, 1) := by decide +kernel
theorem d5_143 : decode method_6_code 143 = .ok (.iand, 1) := by decide +kernel
theorem d5_144 : decode method_6_code 144 = .ok (.invokestatic 19, 3) := by decide +kernel
theorem d5_147 : decode method_6_code 147 = .ok (.ifCond .eq 10, 3) := by decide +kernel
theorem d5_150 : decode method_6_code 150 = .ok (.iload_n 2, 1) := by decide +kernel
theorem d5_151 : decode method_6_code 151 = .ok (.bipush 7, 2) := by decide +kernel
theorem d5_153 : decode method_6_code 153 = .ok (.iadd, 1) := by decide +kernel
theorem d5_154 : decode method_6_code 154 = .ok (.iload_n 3, 1) := by decide +kernel
theorem d5_155 : decode method_6_code 155 = .ok (.iand, 1) := by decide +kernel
theorem d5_156 : decode method_6_code 156 = .ok (.ireturn, 1) := by decide +kernel
theorem d5_157 : decode method_6_code 157 = .ok (.iconst (-1), 1) := by decide +kernel
theorem d5_158 : decode method_6_code 158 = .ok (.ireturn, 1) := by decide +kernel
theorem d6_0 : decode method_5_code 0 = .ok (.aload_n 0, 1) := by decide +kernel
theorem d6_1 : decode method_5_code 1 = .ok (.iload_n 2, 1) := by decide +kernel
theorem d6_2 : decode method_5_code 2 = .ok (.iaload, 1) := by decide +kernel
theorem d6_3 : decode method_5_code 3 = .ok (.iconst (-1), 1) := by decide +kernel
theorem d6_4 : decode method_5_code 4 = .ok (.if_icmp .eq 10, 3) := by decide +kernel
theorem d6_7 : decode method_5_code 7 = .ok (.aload_n 0, 1) := by decide +kernel
theorem d6_8 : decode method_5_code 8 = .ok (.iload_n 2, 1) := by decide +kernel
theorem d6_9 : decode method_5_code 9 = .ok (.iaload, 1) := by decide +kernel
theorem d6_10 : decode method_5_code 10 = .ok (.iload_n 1, 1) := by decide +kernel
theorem d6_11 : decode method_5_code 11 = .ok (.if_icmp .ne 7, 3) := by decide +kernel
theorem d6_14 : decode method_5_code 14 = .ok (.iconst 1, 1) := by decide +kernel
theorem d6_15 : decode method_5_code 15 = .ok (.goto 4, 3) := by decide +kernel
theorem d6_18 : decode method_5_code 18 = .ok (.iconst 0, 1) := by decide +kernel
theorem d6_19 : decode method_5_code 19 = .ok (.ireturn, 1) := by decide +kernel
theorem pn_0 : plainName "com/example/bough3/bough3/model/PrincipalSlotsSlotOfPinLaw" = true := by first | (simp [plainName, overriddenIn]; done) | decide +kernel
theorem pn_1 : plainName "com/example/bough3/bough3/model/PrincipalSlots" = true := by first | (simp [plainName, overriddenIn]; done) | decide +kernel
theorem pd_0 : parseMethodDescriptor "(II)I" = some ⟨[.int, .int], some .int⟩ := by decide +kernel
theorem pd_1 : parseMethodDescriptor "(IIII)I" = some ⟨[.int, .int, .int, .int], some .int⟩ := by decide +kernel
theorem pd_2 : parseMethodDescriptor "([III)Z" = some ⟨[(.array .int), .int, .int], some .boolean⟩ := by decide +kernel
theorem pd_3 : parseMethodDescriptor "(IIIII)[I" = some ⟨[.int, .int, .int, .int, .int], some (.array .int)⟩ := by decide +kernel
theorem pd_4 : parseMethodDescriptor "([II)I" = some ⟨[(.array .int), .int], some .int⟩ := by decide +kernel
theorem pd_5 : parseMethodDescriptor "([III)I" = some ⟨[(.array .int), .int, .int], some .int⟩ := by decide +kernel

def own_code (o i : Int32) : Int32 := ((o.toUInt32 >>> (((2 : Int32) * i) &&& 31).toUInt32).toInt32) &&& (3 : Int32)
def own_val (k p a b : Int32) : Int32 := if k = (0 : Int32) then (-1 : Int32) else if k = (1 : Int32) then p else if k = (2 : Int32) then a else b
def own_tab (o p a b : Int32) (q : Nat) : Int32 := own_val (own_code o (Int32.ofNat q)) p a b
def own_stop (x p : Int32) : Int32 := if x = (-1 : Int32) then 1 else if x = p then 1 else 0
/-- the place that an int names, in an array given by f -/
def own_G (f : Nat → Int32) (x : Int32) : Int32 := f x.toInt.toNat
def own_nx (m x : Int32) : Int32 := (x + (1 : Int32)) &&& m
def own_it (m : Int32) : Nat → Int32 → Int32
  | 0, x => x
  | k + 1, x => own_it m k (own_nx m x)
def own_ff (G : Int32 → Int32) (h m p : Int32) : Int32 := if own_stop (G (h &&& m)) p = (0 : Int32) then (if own_stop (G ((h + (1 : Int32)) &&& m)) p = (0 : Int32) then (if own_stop (G ((h + (2 : Int32)) &&& m)) p = (0 : Int32) then (if own_stop (G ((h + (3 : Int32)) &&& m)) p = (0 : Int32) then (if own_stop (G ((h + (4 : Int32)) &&& m)) p = (0 : Int32) then (if own_stop (G ((h + (5 : Int32)) &&& m)) p = (0 : Int32) then (if own_stop (G ((h + (6 : Int32)) &&& m)) p = (0 : Int32) then (if own_stop (G ((h + (7 : Int32)) &&& m)) p = (0 : Int32) then ((-1 : Int32)) else ((h + (7 : Int32)) &&& m)) else ((h + (6 : Int32)) &&& m)) else ((h + (5 : Int32)) &&& m)) else ((h + (4 : Int32)) &&& m)) else ((h + (3 : Int32)) &&& m)) else ((h + (2 : Int32)) &&& m)) else ((h + (1 : Int32)) &&& m)) else (h &&& m)
def own_hash (p : Int32) : Int32 := (p * (-1640531527 : Int32)) ^^^ (((p * (-1640531527 : Int32)).toUInt32 >>> ((16 : Int32) &&& 31).toUInt32).toInt32)
/-- the three sizes -/
def own_sz (n : Nat) : Prop := n = 2 ∨ n = 4 ∨ n = 8
theorem own_and_mod (x : Int32) {n : Nat} (hn : own_sz n) : (x &&& (Int32.ofNat n - 1)).toInt = x.toInt % n := by
  rcases hn with rfl | rfl | rfl
  · exact Jvm.Kit.i32_mask x 1 (k := 1) (by decide) (by decide)
  · exact Jvm.Kit.i32_mask x 3 (k := 2) (by decide) (by decide)
  · exact Jvm.Kit.i32_mask x 7 (k := 3) (by decide) (by decide)
theorem own_i1 : (1 : Int32).toInt = 1 := by decide
theorem own_nx_mod (x : Int32) {n : Nat} (hn : own_sz n) : (own_nx (Int32.ofNat n - 1) x).toInt = (x.toInt + 1) % n := by
  unfold own_nx
  rw [own_and_mod _ hn, Int32.toInt_add, own_i1]
  rcases hn with rfl | rfl | rfl
  · rw [Int.bmod_def]; split <;> omega
  · rw [Int.bmod_def]; split <;> omega
  · rw [Int.bmod_def]; split <;> omega
theorem own_it_mod {n : Nat} (hn : own_sz n) : ∀ (k : Nat) (x : Int32), x.toInt = x.toInt % n → (own_it (Int32.ofNat n - 1) k x).toInt = (x.toInt + k) % n := by
  intro k
  induction k with
  | zero => intro x hx; simp only [own_it]; rw [hx]; simp
  | succ k ih =>
    intro x hx
    have e := own_nx_mod x hn
    have hp : (0 : Int) < n := by rcases hn with rfl | rfl | rfl <;> decide
    simp only [own_it]
    rw [ih _ (by rw [e]; exact (Int.emod_emod_of_dvd _ (Int.dvd_refl _)).symm), e, Int.emod_add_emod]
    congr 1
    omega
theorem own_plus_mod {n : Nat} (hn : own_sz n) (h j : Int32) {k : Nat} (hj : j.toInt = k) (hh : 0 ≤ h.toInt ∧ h.toInt < 8) (hk : k ≤ 7) : ((h + j) &&& (Int32.ofNat n - 1)).toInt = (h.toInt + k) % n := by
  rw [own_and_mod _ hn, own_add32] <;> rw [hj] <;> omega
/-- what firstFrom found -/
theorem own_found (G : Int32 → Int32) (h p : Int32) {n : Nat} (hn : own_sz n) (hh : 0 ≤ h.toInt ∧ h.toInt < n) (q : ¬ own_ff G h (Int32.ofNat n - 1) p < (0 : Int32)) :
    ∃ k : Nat, (∀ j, j < k → own_stop (G (own_it (Int32.ofNat n - 1) j h)) p = 0) ∧ ¬ own_stop (G (own_it (Int32.ofNat n - 1) k h)) p = 0 ∧ own_ff G h (Int32.ofNat n - 1) p = own_it (Int32.ofNat n - 1) k h := by
  have h8 : 0 ≤ h.toInt ∧ h.toInt < 8 := by rcases hn with rfl | rfl | rfl <;> omega
  have hm : h.toInt = h.toInt % n := by rw [Int.emod_eq_of_lt hh.1 hh.2]
  have e0 : h &&& (Int32.ofNat n - 1) = own_it (Int32.ofNat n - 1) 0 h := by
    apply Int32.toInt_inj.mp; rw [own_and_mod _ hn, own_it_mod hn 0 h hm]; simp
  have e1 : (h + (1 : Int32)) &&& (Int32.ofNat n - 1) = own_it (Int32.ofNat n - 1) 1 h := by
    apply Int32.toInt_inj.mp; rw [own_plus_mod hn h _ (k := 1) (by decide) h8 (by decide), own_it_mod hn 1 h hm]
  have e2 : (h + (2 : Int32)) &&& (Int32.ofNat n - 1) = own_it (Int32.ofNat n - 1) 2 h := by
    apply Int32.toInt_inj.mp; rw [own_plus_mod hn h _ (k := 2) (by decide) h8 (by decide), own_it_mod hn 2 h hm]
  have e3 : (h + (3 : Int32)) &&& (Int32.ofNat n - 1) = own_it (Int32.ofNat n - 1) 3 h := by
    apply Int32.toInt_inj.mp; rw [own_plus_mod hn h _ (k := 3) (by decide) h8 (by decide), own_it_mod hn 3 h hm]
  have e4 : (h + (4 : Int32)) &&& (Int32.ofNat n - 1) = own_it (Int32.ofNat n - 1) 4 h := by
    apply Int32.toInt_inj.mp; rw [own_plus_mod hn h _ (k := 4) (by decide) h8 (by decide), own_it_mod hn 4 h hm]
  have e5 : (h + (5 : Int32)) &&& (Int32.ofNat n - 1) = own_it (Int32.ofNat n - 1) 5 h := by
    apply Int32.toInt_inj.mp; rw [own_plus_mod hn h _ (k := 5) (by decide) h8 (by decide), own_it_mod hn 5 h hm]
  have e6 : (h + (6 : Int32)) &&& (Int32.ofNat n - 1) = own_it (Int32.ofNat n - 1) 6 h := by
    apply Int32.toInt_inj.mp; rw [own_plus_mod hn h _ (k := 6) (by decide) h8 (by decide), own_it_mod hn 6 h hm]
  have e7 : (h + (7 : Int32)) &&& (Int32.ofNat n - 1) = own_it (Int32.ofNat n - 1) 7 h := by
    apply Int32.toInt_inj.mp; rw [own_plus_mod hn h _ (k := 7) (by decide) h8 (by decide), own_it_mod hn 7 h hm]
  unfold own_ff at q ⊢
  rw [e0, e1, e2, e3, e4, e5, e6, e7] at q ⊢
  generalize Int32.ofNat n - 1 = m at *
  by_cases s0 : ¬ own_stop (G (own_it m 0 h)) p = 0
  · refine ⟨0, fun j hj => ?_, s0, ?_⟩
    · omega
    · rw [if_neg s0]
  replace s0 := Decidable.not_not.mp s0
  by_cases s1 : ¬ own_stop (G (own_it m 1 h)) p = 0
  · refine ⟨1, fun j hj => ?_, s1, ?_⟩
    · rcases (show j = 0 by omega) with rfl <;> assumption
    · rw [if_pos s0, if_neg s1]
  replace s1 := Decidable.not_not.mp s1
  by_cases s2 : ¬ own_stop (G (own_it m 2 h)) p = 0
  · refine ⟨2, fun j hj => ?_, s2, ?_⟩
    · rcases (show j = 0 ∨ j = 1 by omega) with rfl | rfl <;> assumption
    · rw [if_pos s0, if_pos s1, if_neg s2]
  replace s2 := Decidable.not_not.mp s2
  by_cases s3 : ¬ own_stop (G (own_it m 3 h)) p = 0
  · refine ⟨3, fun j hj => ?_, s3, ?_⟩
    · rcases (show j = 0 ∨ j = 1 ∨ j = 2 by omega) with rfl | rfl | rfl <;> assumption
    · rw [if_pos s0, if_pos s1, if_pos s2, if_neg s3]
  replace s3 := Decidable.not_not.mp s3
  by_cases s4 : ¬ own_stop (G (own_it m 4 h)) p = 0
  · refine ⟨4, fun j hj => ?_, s4, ?_⟩
    · rcases (show j = 0 ∨ j = 1 ∨ j = 2 ∨ j = 3 by omega) with rfl | rfl | rfl | rfl <;> assumption
    · rw [if_pos s0, if_pos s1, if_pos s2, if_pos s3, if_neg s4]
  replace s4 := Decidable.not_not.mp s4
  by_cases s5 : ¬ own_stop (G (own_it m 5 h)) p = 0
  · refine ⟨5, fun j hj => ?_, s5, ?_⟩
    · rcases (show j = 0 ∨ j = 1 ∨ j = 2 ∨ j = 3 ∨ j = 4 by omega) with rfl | rfl | rfl | rfl | rfl <;> assumption
    · rw [if_pos s0, if_pos s1, if_pos s2, if_pos s3, if_pos s4, if_neg s5]
  replace s5 := Decidable.not_not.mp s5
  by_cases s6 : ¬ own_stop (G (own_it m 6 h)) p = 0
  · refine ⟨6, fun j hj => ?_, s6, ?_⟩
    · rcases (show j = 0 ∨ j = 1 ∨ j = 2 ∨ j = 3 ∨ j = 4 ∨ j = 5 by omega) with rfl | rfl | rfl | rfl | rfl | rfl <;> assumption
    · rw [if_pos s0, if_pos s1, if_pos s2, if_pos s3, if_pos s4, if_pos s5, if_neg s6]
  replace s6 := Decidable.not_not.mp s6
  by_cases s7 : ¬ own_stop (G (own_it m 7 h)) p = 0
  · refine ⟨7, fun j hj => ?_, s7, ?_⟩
    · rcases (show j = 0 ∨ j = 1 ∨ j = 2 ∨ j = 3 ∨ j = 4 ∨ j = 5 ∨ j = 6 by omega) with rfl | rfl | rfl | rfl | rfl | rfl | rfl <;> assumption
    · rw [if_pos s0, if_pos s1, if_pos s2, if_pos s3, if_pos s4, if_pos s5, if_pos s6, if_neg s7]
  replace s7 := Decidable.not_not.mp s7
  rw [if_pos s0, if_pos s1, if_pos s2, if_pos s3, if_pos s4, if_pos s5, if_pos s6, if_pos s7] at q
  exact absurd (by decide) q
theorem own_mask_in (x : Int32) {n : Nat} (hn : own_sz n) : (x &&& (Int32.ofNat n - 1)).toInt = ((x &&& (Int32.ofNat n - 1)).toInt.toNat : Nat) ∧ (x &&& (Int32.ofNat n - 1)).toInt.toNat < n := by
  have e := own_and_mod x hn
  rcases hn with rfl | rfl | rfl <;> omega
theorem ef_rm2 (m : MethodId) (x0 : Int32) (x1 : Int32) : entryFrame m #[(.int x0), (.int x1)] 2 = mkF m 0 #[.val (.int x0), .val (.int x1)] [] := by first | (simp [entryFrame, mkF, argsToLocals, Value.category]; done) | rfl
def Q_rm2 (Z : State) (o1 : Int32) (i1 : Int32) (h0 : Heap) (n0 : Nat) (v : Option Value) (h : Heap) (L : List Loc) : Prop := v = some (.int (own_code o1 i1)) ∧ Fr n0 L ∧ h = h0
set_option maxRecDepth 65536 in
set_option maxHeartbeats 40000000 in
theorem rm2 (l : Launch) (Z : State) (a0 : Array Value) (hw : ∀ d ∈ tables_1, d.before a0 Z = true) (ws : List Jvm.Cond) (o1 : Int32) (i1 : Int32) (h0 : Heap) (n0 : Nat) (Z0 : n0 ≤ h0.size)  :
    MetFree l (⟨"com/example/bough3/bough3/model/PrincipalSlotsSlotOfPinLaw", "code", "(II)I"⟩ : MethodName) (head1 (Jvm.Cond.code (⟨"com/example/bough3/bough3/model/PrincipalSlotsSlotOfPinLaw", "code", "(II)I"⟩ : MethodName) method_2_code 2 (some .int) :: ws) ({ frames := 0, cells := 0, slots := 0, locals := 0 } : Room)) (fun a U => a = #[(.int o1), (.int i1)] ∧ Z.Warmed39 U.vm ∧ U.heap = h0) (fun _ _ _ _ _ => True) (fun _ U o U' => ∃ v L, o = .returned v ∧ Q_rm2 Z o1 i1 h0 n0 v U'.heap L ∧ FrameEnd U o U' L ({ frames := 0, cells := 0, slots := 0, locals := 0 } : Room).cells ({ frames := 0, cells := 0, slots := 0, locals := 0 } : Room).slots) := by
  refine MetFree.of_bodySF (plainFor_of_name pn_0) hisR ?_
  intro p e s m args below meth c s₁ Bd hml0 hP hK
  obtain ⟨rfl, hZ, hh⟩ := hP
  have hx := Bd.exec
  have hby := Bd.bytes
  have hml : c.maxLocals = 2 := hml0
  have hown : s.vm.findClass "com/example/bough3/bough3/model/PrincipalSlotsSlotOfPinLaw" = some m.cls := findClass_of_methodNamed Bd.named
  have hnm := (name_of_methodNamed Bd.named Bd.method).1
  have X0 : Stand p l e ({ frames := 0, cells := 0, slots := 0, locals := 0 } : Room) s m #[(.int o1), (.int i1)] below meth c s₁ [] 0 0 := Stand.of_body Bd
  have e0 : s₁.heap = h0 := by rw [← hh, Bd.state]; rfl
  have N0 := Fr.nil n0
  have pre0 : ∀ t, Steps p.tables e below (s₁.setTop (mkF m 0 #[.val (.int o1), .val (.int i1)] [])) t → Steps p.tables e below (s₁.setTop (entryFrame m #[(.int o1), (.int i1)] 2)) t := fun t k => castTop (ef_rm2 m o1 i1) k
  have S1 : ∀ t, Steps p.tables e below (s₁.setTop (mkF m 7 #[.val (.int o1), .val (.int i1)] [(.int (((o1.toUInt32 >>> (((2 : Int32) * i1) &&& 31).toUInt32).toInt32) &&& (3 : Int32)))])) t → Steps p.tables e below (s₁.setTop (mkF m 0 #[.val (.int o1), .val (.int i1)] [])) t := by
    intro t kt
    show Steps p.tables e below (s₁.setTop (mkF m 0 #[.val (.int o1), .val (.int i1)] [])) _
    refine XS.iloadN X0.here hx rfl (hb hby d2_0) rfl ?_
    show Steps p.tables e below (s₁.setTop (mkF m 1 #[.val (.int o1), .val (.int i1)] [(.int o1)])) _
    refine XS.iconst X0.here hx rfl (hb hby d2_1) ?_
    show Steps p.tables e below (s₁.setTop (mkF m 2 #[.val (.int o1), .val (.int i1)] [(.int (2 : Int32)), (.int o1)])) _
    refine XS.iloadN X0.here hx rfl (hb hby d2_2) rfl ?_
    show Steps p.tables e below (s₁.setTop (mkF m 3 #[.val (.int o1), .val (.int i1)] [(.int i1), (.int (2 : Int32)), (.int o1)])) _
    refine XS.imul X0.here hx rfl (hb hby d2_3) rfl ?_
    show Steps p.tables e below (s₁.setTop (mkF m 4 #[.val (.int o1), .val (.int i1)] [(.int ((2 : Int32) * i1)), (.int o1)])) _
    refine XS.iushr X0.here hx rfl (hb hby d2_4) rfl ?_
    show Steps p.tables e below (s₁.setTop (mkF m 5 #[.val (.int o1), .val (.int i1)] [(.int ((o1.toUInt32 >>> (((2 : Int32) * i1) &&& 31).toUInt32).toInt32))])) _
    refine XS.iconst X0.here hx rfl (hb hby d2_5) ?_
    show Steps p.tables e below (s₁.setTop (mkF m 6 #[.val (.int o1), .val (.int i1)] [(.int (3 : Int32)), (.int ((o1.toUInt32 >>> (((2 : Int32) * i1) &&& 31).toUInt32).toInt32))])) _
    refine XS.iand X0.here hx rfl (hb hby d2_6) rfl ?_
    exact kt
  have C2 : ∀ t, Steps p.tables e below (s₁.setTop (mkF m 7 #[.val (.int o1), .val (.int i1)] [(.int (((o1.toUInt32 >>> (((2 : Int32) * i1) &&& 31).toUInt32).toInt32) &&& (3 : Int32)))])) t → Steps p.tables e below (s₁.setTop (mkF m 0 #[.val (.int o1), .val (.int i1)] [])) t := (fun t k => (S1 t k))
  obtain ⟨fs, hr, hrun, hended, hW, hsame⟩ := X0.leave (v := some (.int (((o1.toUInt32 >>> (((2 : Int32) * i1) &&& 31).toUInt32).toInt32) &&& (3 : Int32)))) (fun h => by rw [Bd.returns] at h; cases h)
  refine ⟨_, _, pre0 _ (C2 _ ?_), hrun, hended, _, _, rfl, ?_, ⟨_, rfl⟩, hW, hsame.mono (by decide) (by decide)⟩
  · exact retOut X0 hx (t := .int) Bd.returns rfl (Or.inl ⟨rfl, Or.inl rfl, _, rfl⟩) (hb hby d2_7) hr
  · show Q_rm2 Z o1 i1 h0 n0 _ s₁.heap _
    rw [e0]
    exact ⟨rfl, N0, rfl⟩
theorem ef_rm3 (m : MethodId) (x0 : Int32) (x1 : Int32) (x2 : Int32) (x3 : Int32) : entryFrame m #[(.int x0), (.int x1), (.int x2), (.int x3)] 4 = mkF m 0 #[.val (.int x0), .val (.int x1), .val (.int x2), .val (.int x3)] [] := by first | (simp [entryFrame, mkF, argsToLocals, Value.category]; done) | rfl
def Q_rm3 (Z : State) (k1 : Int32) (p1 : Int32) (x1 : Int32) (y1 : Int32) (h0 : Heap) (n0 : Nat) (v : Option Value) (h : Heap) (L : List Loc) : Prop := v = some (.int (own_val k1 p1 x1 y1)) ∧ Fr n0 L ∧ h = h0
set_option maxRecDepth 65536 in
set_option maxHeartbeats 40000000 in
theorem rm3 (l : Launch) (Z : State) (a0 : Array Value) (hw : ∀ d ∈ tables_1, d.before a0 Z = true) (ws : List Jvm.Cond) (k1 : Int32) (p1 : Int32) (x1 : Int32) (y1 : Int32) (h0 : Heap) (n0 : Nat) (Z0 : n0 ≤ h0.size)  :
    MetFree l (⟨"com/example/bough3/bough3/model/PrincipalSlotsSlotOfPinLaw", "value", "(IIII)I"⟩ : MethodName) (head1 (Jvm.Cond.code (⟨"com/example/bough3/bough3/model/PrincipalSlotsSlotOfPinLaw", "value", "(IIII)I"⟩ : MethodName) method_3_code 4 (some .int) :: ws) ({ frames := 0, cells := 0, slots := 0, locals := 0 } : Room)) (fun a U => a = #[(.int k1), (.int p1), (.int x1), (.int y1)] ∧ Z.Warmed39 U.vm ∧ U.heap = h0) (fun _ _ _ _ _ => True) (fun _ U o U' => ∃ v L, o = .returned v ∧ Q_rm3 Z k1 p1 x1 y1 h0 n0 v U'.heap L ∧ FrameEnd U o U' L ({ frames := 0, cells := 0, slots := 0, locals := 0 } : Room).cells ({ frames := 0, cells := 0, slots := 0, locals := 0 } : Room).slots) := by
  refine MetFree.of_bodySF (plainFor_of_name pn_0) hisR ?_
  intro p e s m args below meth c s₁ Bd hml0 hP hK
  obtain ⟨rfl, hZ, hh⟩ := hP
  have hx := Bd.exec
  have hby := Bd.bytes
  have hml : c.maxLocals = 4 := hml0
  have hown : s.vm.findClass "com/example/bough3/bough3/model/PrincipalSlotsSlotOfPinLaw" = some m.cls := findClass_of_methodNamed Bd.named
  have hnm := (name_of_methodNamed Bd.named Bd.method).1
  have X0 : Stand p l e ({ frames := 0, cells := 0, slots := 0, locals := 0 } : Room) s m #[(.int k1), (.int p1), (.int x1), (.int y1)] below meth c s₁ [] 0 0 := Stand.of_body Bd
  have e0 : s₁.heap = h0 := by rw [← hh, Bd.state]; rfl
  have N0 := Fr.nil n0
  have pre0 : ∀ t, Steps p.tables e below (s₁.setTop (mkF m 0 #[.val (.int k1), .val (.int p1), .val (.int x1), .val (.int y1)] [])) t → Steps p.tables e below (s₁.setTop (entryFrame m #[(.int k1), (.int p1), (.int x1), (.int y1)] 4)) t := fun t k => castTop (ef_rm3 m k1 p1 x1 y1) k
  have S3 : ∀ t, Steps p.tables e below (s₁.setTop (mkF m 1 #[.val (.int k1), .val (.int p1), .val (.int x1), .val (.int y1)] [(.int k1)])) t → Steps p.tables e below (s₁.setTop (mkF m 0 #[.val (.int k1), .val (.int p1), .val (.int x1), .val (.int y1)] [])) t := by
    intro t kt
    show Steps p.tables e below (s₁.setTop (mkF m 0 #[.val (.int k1), .val (.int p1), .val (.int x1), .val (.int y1)] [])) _
    refine XS.iloadN X0.here hx rfl (hb hby d3_0) rfl ?_
    exact kt
  by_cases hc4 : k1 = (0 : Int32)
  · have S5 : ∀ t, Steps p.tables e below (s₁.setTop (mkF m 5 #[.val (.int k1), .val (.int p1), .val (.int x1), .val (.int y1)] [(.int (-1 : Int32))])) t → Steps p.tables e below (s₁.setTop (mkF m 1 #[.val (.int k1), .val (.int p1), .val (.int x1), .val (.int y1)] [(.int k1)])) t := by
      intro t kt
      show Steps p.tables e below (s₁.setTop (mkF m 1 #[.val (.int k1), .val (.int p1), .val (.int x1), .val (.int y1)] [(.int k1)])) _
      refine XS.ifNo X0.here hx rfl (hb hby d3_1) rfl ((if0 _ _).trans (teq hc4).2) ?_
      show Steps p.tables e below (s₁.setTop (mkF m 4 #[.val (.int k1), .val (.int p1), .val (.int x1), .val (.int y1)] [])) _
      refine XS.iconst X0.here hx rfl (hb hby d3_4) ?_
      exact kt
    have C6 : ∀ t, Steps p.tables e below (s₁.setTop (mkF m 5 #[.val (.int k1), .val (.int p1), .val (.int x1), .val (.int y1)] [(.int (-1 : Int32))])) t → Steps p.tables e below (s₁.setTop (mkF m 0 #[.val (.int k1), .val (.int p1), .val (.int x1), .val (.int y1)] [])) t := (fun t k => (S3 t (S5 t k)))
    obtain ⟨fs, hr, hrun, hended, hW, hsame⟩ := X0.leave (v := some (.int (-1 : Int32))) (fun h => by rw [Bd.returns] at h; cases h)
    refine ⟨_, _, pre0 _ (C6 _ ?_), hrun, hended, _, _, rfl, ?_, ⟨_, rfl⟩, hW, hsame.mono (by decide) (by decide)⟩
    · exact retOut X0 hx (t := .int) Bd.returns rfl (Or.inl ⟨rfl, Or.inl rfl, _, rfl⟩) (hb hby d3_5) hr
    · show Q_rm3 Z k1 p1 x1 y1 h0 n0 _ s₁.heap _
      rw [e0]
      exact ⟨by simp only [own_val, if_pos hc4], N0, rfl⟩
  · have S7 : ∀ t, Steps p.tables e below (s₁.setTop (mkF m 8 #[.val (.int k1), .val (.int p1), .val (.int x1), .val (.int y1)] [(.int (1 : Int32)), (.int k1)])) t → Steps p.tables e below (s₁.setTop (mkF m 1 #[.val (.int k1), .val (.int p1), .val (.int x1), .val (.int y1)] [(.int k1)])) t := by
      intro t kt
      show Steps p.tables e below (s₁.setTop (mkF m 1 #[.val (.int k1), .val (.int p1), .val (.int x1), .val (.int y1)] [(.int k1)])) _
      refine XS.ifYes X0.here hx rfl (pc0 := 1) (pc' := 6) rfl (hb hby d3_1) rfl ((if0 _ _).trans (feq hc4).2) (by decide) (by decide) ?_
      show Steps p.tables e below (s₁.setTop (mkF m 6 #[.val (.int k1), .val (.int p1), .val (.int x1), .val (.int y1)] [])) _
      refine XS.iloadN X0.here hx rfl (hb hby d3_6) rfl ?_
      show Steps p.tables e below (s₁.setTop (mkF m 7 #[.val (.int k1), .val (.int p1), .val (.int x1), .val (.int y1)] [(.int k1)])) _
      refine XS.iconst X0.here hx rfl (hb hby d3_7) ?_
      exact kt
    by_cases hc8 : k1 = (1 : Int32)
    · have S9 : ∀ t, Steps p.tables e below (s₁.setTop (mkF m 12 #[.val (.int k1), .val (.int p1), .val (.int x1), .val (.int y1)] [(.int p1)])) t → Steps p.tables e below (s₁.setTop (mkF m 8 #[.val (.int k1), .val (.int p1), .val (.int x1), .val (.int y1)] [(.int (1 : Int32)), (.int k1)])) t := by
        intro t kt
        show Steps p.tables e below (s₁.setTop (mkF m 8 #[.val (.int k1), .val (.int p1), .val (.int x1), .val (.int y1)] [(.int (1 : Int32)), (.int k1)])) _
        refine XS.icmpNo X0.here hx rfl (hb hby d3_8) rfl (teq hc8).2 ?_
        show Steps p.tables e below (s₁.setTop (mkF m 11 #[.val (.int k1), .val (.int p1), .val (.int x1), .val (.int y1)] [])) _
        refine XS.iloadN X0.here hx rfl (hb hby d3_11) rfl ?_
        exact kt
      have C10 : ∀ t, Steps p.tables e below (s₁.setTop (mkF m 12 #[.val (.int k1), .val (.int p1), .val (.int x1), .val (.int y1)] [(.int p1)])) t → Steps p.tables e below (s₁.setTop (mkF m 0 #[.val (.int k1), .val (.int p1), .val (.int x1), .val (.int y1)] [])) t := (fun t k => (S3 t (S7 t (S9 t k))))
      obtain ⟨fs, hr, hrun, hended, hW, hsame⟩ := X0.leave (v := some (.int p1)) (fun h => by rw [Bd.returns] at h; cases h)
      refine ⟨_, _, pre0 _ (C10 _ ?_), hrun, hended, _, _, rfl, ?_, ⟨_, rfl⟩, hW, hsame.mono (by decide) (by decide)⟩
      · exact retOut X0 hx (t := .int) Bd.returns rfl (Or.inl ⟨rfl, Or.inl rfl, _, rfl⟩) (hb hby d3_12) hr
      · show Q_rm3 Z k1 p1 x1 y1 h0 n0 _ s₁.heap _
        rw [e0]
        exact ⟨by simp only [own_val, if_neg hc4, if_pos hc8], N0, rfl⟩
    · have S11 : ∀ t, Steps p.tables e below (s₁.setTop (mkF m 15 #[.val (.int k1), .val (.int p1), .val (.int x1), .val (.int y1)] [(.int (2 : Int32)), (.int k1)])) t → Steps p.tables e below (s₁.setTop (mkF m 8 #[.val (.int k1), .val (.int p1), .val (.int x1), .val (.int y1)] [(.int (1 : Int32)), (.int k1)])) t := by
        intro t kt
        show Steps p.tables e below (s₁.setTop (mkF m 8 #[.val (.int k1), .val (.int p1), .val (.int x1), .val (.int y1)] [(.int (1 : Int32)), (.int k1)])) _
        refine XS.icmpYes X0.here hx rfl (pc0 := 8) (pc' := 13) rfl (hb hby d3_8) rfl (feq hc8).2 (by decide) (by decide) ?_
        show Steps p.tables e below (s₁.setTop (mkF m 13 #[.val (.int k1), .val (.int p1), .val (.int x1), .val (.int y1)] [])) _
        refine XS.iloadN X0.here hx rfl (hb hby d3_13) rfl ?_
        show Steps p.tables e below (s₁.setTop (mkF m 14 #[.val (.int k1), .val (.int p1), .val (.int x1), .val (.int y1)] [(.int k1)])) _
        refine XS.iconst X0.here hx rfl (hb hby d3_14) ?_
        exact kt
      by_cases hc12 : k1 = (2 : Int32)
      · have S13 : ∀ t, Steps p.tables e below (s₁.setTop (mkF m 19 #[.val (.int k1), .val (.int p1), .val (.int x1), .val (.int y1)] [(.int x1)])) t → Steps p.tables e below (s₁.setTop (mkF m 15 #[.val (.int k1), .val (.int p1), .val (.int x1), .val (.int y1)] [(.int (2 : Int32)), (.int k1)])) t := by
          intro t kt
          show Steps p.tables e below (s₁.setTop (mkF m 15 #[.val (.int k1), .val (.int p1), .val (.int x1), .val (.int y1)] [(.int (2 : Int32)), (.int k1)])) _
          refine XS.icmpNo X0.here hx rfl (hb hby d3_15) rfl (teq hc12).2 ?_
          show Steps p.tables e below (s₁.setTop (mkF m 18 #[.val (.int k1), .val (.int p1), .val (.int x1), .val (.int y1)] [])) _
          refine XS.iloadN X0.here hx rfl (hb hby d3_18) rfl ?_
          exact kt
        have C14 : ∀ t, Steps p.tables e below (s₁.setTop (mkF m 19 #[.val (.int k1), .val (.int p1), .val (.int x1), .val (.int y1)] [(.int x1)])) t → Steps p.tables e below (s₁.setTop (mkF m 0 #[.val (.int k1), .val (.int p1), .val (.int x1), .val (.int y1)] [])) t := (fun t k => (S3 t (S7 t (S11 t (S13 t k)))))
        obtain ⟨fs, hr, hrun, hended, hW, hsame⟩ := X0.leave (v := some (.int x1)) (fun h => by rw [Bd.returns] at h; cases h)
        refine ⟨_, _, pre0 _ (C14 _ ?_), hrun, hended, _, _, rfl, ?_, ⟨_, rfl⟩, hW, hsame.mono (by decide) (by decide)⟩
        · exact retOut X0 hx (t := .int) Bd.returns rfl (Or.inl ⟨rfl, Or.inl rfl, _, rfl⟩) (hb hby d3_19) hr
        · show Q_rm3 Z k1 p1 x1 y1 h0 n0 _ s₁.heap _
          rw [e0]
          exact ⟨by simp only [own_val, if_neg hc4, if_neg hc8, if_pos hc12], N0, rfl⟩
      · have S15 : ∀ t, Steps p.tables e below (s₁.setTop (mkF m 21 #[.val (.int k1), .val (.int p1), .val (.int x1), .val (.int y1)] [(.int y1)])) t → Steps p.tables e below (s₁.setTop (mkF m 15 #[.val (.int k1), .val (.int p1), .val (.int x1), .val (.int y1)] [(.int (2 : Int32)), (.int k1)])) t := by
          intro t kt
          show Steps p.tables e below (s₁.setTop (mkF m 15 #[.val (.int k1), .val (.int p1), .val (.int x1), .val (.int y1)] [(.int (2 : Int32)), (.int k1)])) _
          refine XS.icmpYes X0.here hx rfl (pc0 := 15) (pc' := 20) rfl (hb hby d3_15) rfl (feq hc12).2 (by decide) (by decide) ?_
          show Steps p.tables e below (s₁.setTop (mkF m 20 #[.val (.int k1), .val (.int p1), .val (.int x1), .val (.int y1)] [])) _
          refine XS.iloadN X0.here hx rfl (hb hby d3_20) rfl ?_
          exact kt
        have C16 : ∀ t, Steps p.tables e below (s₁.setTop (mkF m 21 #[.val (.int k1), .val (.int p1), .val (.int x1), .val (.int y1)] [(.int y1)])) t → Steps p.tables e below (s₁.setTop (mkF m 0 #[.val (.int k1), .val (.int p1), .val (.int x1), .val (.int y1)] [])) t := (fun t k => (S3 t (S7 t (S11 t (S15 t k)))))
        obtain ⟨fs, hr, hrun, hended, hW, hsame⟩ := X0.leave (v := some (.int y1)) (fun h => by rw [Bd.returns] at h; cases h)
        refine ⟨_, _, pre0 _ (C16 _ ?_), hrun, hended, _, _, rfl, ?_, ⟨_, rfl⟩, hW, hsame.mono (by decide) (by decide)⟩
        · exact retOut X0 hx (t := .int) Bd.returns rfl (Or.inl ⟨rfl, Or.inl rfl, _, rfl⟩) (hb hby d3_21) hr
        · show Q_rm3 Z k1 p1 x1 y1 h0 n0 _ s₁.heap _
          rw [e0]
          exact ⟨by simp only [own_val, if_neg hc4, if_neg hc8, if_neg hc12], N0, rfl⟩
theorem ef_rm6 (m : MethodId) (x0 : Addr) (x1 : Int32) (x2 : Int32) : entryFrame m #[(.ref x0), (.int x1), (.int x2)] 3 = mkF m 0 #[.val (.ref x0), .val (.int x1), .val (.int x2)] [] := by first | (simp [entryFrame, mkF, argsToLocals, Value.category]; done) | rfl
def Q_rm6 (Z : State) (t1 : Addr) (p1 : Int32) (i1 : Int32) (i : Nat) (n : Nat) (f1 : Nat → Int32) (h0 : Heap) (n0 : Nat) (v : Option Value) (h : Heap) (L : List Loc) : Prop := v = some (.int (own_stop (f1 i) p1)) ∧ Fr n0 L ∧ h = h0
set_option maxRecDepth 65536 in
set_option maxHeartbeats 40000000 in
theorem rm6 (l : Launch) (Z : State) (a0 : Array Value) (hw : ∀ d ∈ tables_1, d.before a0 Z = true) (ws : List Jvm.Cond) (t1 : Addr) (p1 : Int32) (i1 : Int32) (i : Nat) (n : Nat) (f1 : Nat → Int32) (h0 : Heap) (n0 : Nat) (Z0 : n0 ≤ h0.size) (F17 : ArF Z h0 t1 .int n (fun q => (.int (f1 q)))) (hi : i1.toInt = (i : Int) ∧ i < n) :
    MetFree l (⟨"com/example/bough3/bough3/model/PrincipalSlotsSlotOfPinLaw", "stops", "([III)Z"⟩ : MethodName) (head1 (Jvm.Cond.code (⟨"com/example/bough3/bough3/model/PrincipalSlotsSlotOfPinLaw", "stops", "([III)Z"⟩ : MethodName) method_5_code 3 (some .boolean) :: ws) ({ frames := 0, cells := 0, slots := 0, locals := 0 } : Room)) (fun a U => a = #[(.ref t1), (.int p1), (.int i1)] ∧ Z.Warmed39 U.vm ∧ U.heap = h0) (fun _ _ _ _ _ => True) (fun _ U o U' => ∃ v L, o = .returned v ∧ Q_rm6 Z t1 p1 i1 i n f1 h0 n0 v U'.heap L ∧ FrameEnd U o U' L ({ frames := 0, cells := 0, slots := 0, locals := 0 } : Room).cells ({ frames := 0, cells := 0, slots := 0, locals := 0 } : Room).slots) := by
  refine MetFree.of_bodySF (plainFor_of_name pn_0) hisR ?_
  intro p e s m args below meth c s₁ Bd hml0 hP hK
  obtain ⟨rfl, hZ, hh⟩ := hP
  have hx := Bd.exec
  have hby := Bd.bytes
  have hml : c.maxLocals = 3 := hml0
  have hown : s.vm.findClass "com/example/bough3/bough3/model/PrincipalSlotsSlotOfPinLaw" = some m.cls := findClass_of_methodNamed Bd.named
  have hnm := (name_of_methodNamed Bd.named Bd.method).1
  have X0 : Stand p l e ({ frames := 0, cells := 0, slots := 0, locals := 0 } : Room) s m #[(.ref t1), (.int p1), (.int i1)] below meth c s₁ [] 0 0 := Stand.of_body Bd
  have e0 : s₁.heap = h0 := by rw [← hh, Bd.state]; rfl
  have N0 := Fr.nil n0
  have pre0 : ∀ t, Steps p.tables e below (s₁.setTop (mkF m 0 #[.val (.ref t1), .val (.int p1), .val (.int i1)] [])) t → Steps p.tables e below (s₁.setTop (entryFrame m #[(.ref t1), (.int p1), (.int i1)] 3)) t := fun t k => castTop (ef_rm6 m t1 p1 i1) k
  have S18 : ∀ t, Steps p.tables e below (s₁.setTop (mkF m 4 #[.val (.ref t1), .val (.int p1), .val (.int i1)] [(.int (-1 : Int32)), (.int (f1 i))])) t → Steps p.tables e below (s₁.setTop (mkF m 0 #[.val (.ref t1), .val (.int p1), .val (.int i1)] [])) t := by
    intro t kt
    show Steps p.tables e below (s₁.setTop (mkF m 0 #[.val (.ref t1), .val (.int p1), .val (.int i1)] [])) _
    refine XS.aloadN X0.here hx rfl (hb hby d6_0) rfl rfl ?_
    show Steps p.tables e below (s₁.setTop (mkF m 1 #[.val (.ref t1), .val (.int p1), .val (.int i1)] [(.ref t1)])) _
    refine XS.iloadN X0.here hx rfl (hb hby d6_1) rfl ?_
    show Steps p.tables e below (s₁.setTop (mkF m 2 #[.val (.ref t1), .val (.int p1), .val (.int i1)] [(.int i1), (.ref t1)])) _
    refine ArF.ldI X0 hx hZ e0 F17 (i := i) hi.1 hi.2 (v := (f1 i)) rfl (g := (mkF m 2 #[.val (.ref t1), .val (.int p1), .val (.int i1)] [(.int i1), (.ref t1)])) rfl rfl (hb hby d6_2) _ ?_
    show Steps p.tables e below (s₁.setTop (mkF m 3 #[.val (.ref t1), .val (.int p1), .val (.int i1)] [(.int (f1 i))])) _
    refine XS.iconst X0.here hx rfl (hb hby d6_3) ?_
    exact kt
  by_cases hc19 : (f1 i) = (-1 : Int32)
  · have S20 : ∀ t, Steps p.tables e below (s₁.setTop (mkF m 19 #[.val (.ref t1), .val (.int p1), .val (.int i1)] [(.int (1 : Int32))])) t → Steps p.tables e below (s₁.setTop (mkF m 4 #[.val (.ref t1), .val (.int p1), .val (.int i1)] [(.int (-1 : Int32)), (.int (f1 i))])) t := by
      intro t kt
      show Steps p.tables e below (s₁.setTop (mkF m 4 #[.val (.ref t1), .val (.int p1), .val (.int i1)] [(.int (-1 : Int32)), (.int (f1 i))])) _
      refine XS.icmpYes X0.here hx rfl (pc0 := 4) (pc' := 14) rfl (hb hby d6_4) rfl (teq hc19).1 (by decide) (by decide) ?_
      show Steps p.tables e below (s₁.setTop (mkF m 14 #[.val (.ref t1), .val (.int p1), .val (.int i1)] [])) _
      refine XS.iconst X0.here hx rfl (hb hby d6_14) ?_
      show Steps p.tables e below (s₁.setTop (mkF m 15 #[.val (.ref t1), .val (.int p1), .val (.int i1)] [(.int (1 : Int32))])) _
      refine XS.goto X0.here hx rfl (pc0 := 15) (pc' := 19) rfl (hb hby d6_15) (by decide) (by decide) ?_
      exact kt
    have C21 : ∀ t, Steps p.tables e below (s₁.setTop (mkF m 19 #[.val (.ref t1), .val (.int p1), .val (.int i1)] [(.int (1 : Int32))])) t → Steps p.tables e below (s₁.setTop (mkF m 0 #[.val (.ref t1), .val (.int p1), .val (.int i1)] [])) t := (fun t k => (S18 t (S20 t k)))
    obtain ⟨fs, hr, hrun, hended, hW, hsame⟩ := X0.leave (v := some (.int (1 : Int32))) (fun h => by rw [Bd.returns] at h; cases h)
    refine ⟨_, _, pre0 _ (C21 _ ?_), hrun, hended, _, _, rfl, ?_, ⟨_, rfl⟩, hW, hsame.mono (by decide) (by decide)⟩
    · exact retN X0 hx (t := .boolean) Bd.returns (by simp) (hb hby d6_19) hr
    · show Q_rm6 Z t1 p1 i1 i n f1 h0 n0 _ s₁.heap _
      rw [e0]
      exact ⟨by simp only [own_stop, if_pos hc19] <;> rfl, N0, rfl⟩
  · have S22 : ∀ t, Steps p.tables e below (s₁.setTop (mkF m 11 #[.val (.ref t1), .val (.int p1), .val (.int i1)] [(.int p1), (.int (f1 i))])) t → Steps p.tables e below (s₁.setTop (mkF m 4 #[.val (.ref t1), .val (.int p1), .val (.int i1)] [(.int (-1 : Int32)), (.int (f1 i))])) t := by
      intro t kt
      show Steps p.tables e below (s₁.setTop (mkF m 4 #[.val (.ref t1), .val (.int p1), .val (.int i1)] [(.int (-1 : Int32)), (.int (f1 i))])) _
      refine XS.icmpNo X0.here hx rfl (hb hby d6_4) rfl (feq hc19).1 ?_
      show Steps p.tables e below (s₁.setTop (mkF m 7 #[.val (.ref t1), .val (.int p1), .val (.int i1)] [])) _
      refine XS.aloadN X0.here hx rfl (hb hby d6_7) rfl rfl ?_
      show Steps p.tables e below (s₁.setTop (mkF m 8 #[.val (.ref t1), .val (.int p1), .val (.int i1)] [(.ref t1)])) _
      refine XS.iloadN X0.here hx rfl (hb hby d6_8) rfl ?_
      show Steps p.tables e below (s₁.setTop (mkF m 9 #[.val (.ref t1), .val (.int p1), .val (.int i1)] [(.int i1), (.ref t1)])) _
      refine ArF.ldI X0 hx hZ e0 F17 (i := i) hi.1 hi.2 (v := (f1 i)) rfl (g := (mkF m 9 #[.val (.ref t1), .val (.int p1), .val (.int i1)] [(.int i1), (.ref t1)])) rfl rfl (hb hby d6_9) _ ?_
      show Steps p.tables e below (s₁.setTop (mkF m 10 #[.val (.ref t1), .val (.int p1), .val (.int i1)] [(.int (f1 i))])) _
      refine XS.iloadN X0.here hx rfl (hb hby d6_10) rfl ?_
      exact kt
    by_cases hc23 : (f1 i) = p1
    · have S24 : ∀ t, Steps p.tables e below (s₁.setTop (mkF m 19 #[.val (.ref t1), .val (.int p1), .val (.int i1)] [(.int (1 : Int32))])) t → Steps p.tables e below (s₁.setTop (mkF m 11 #[.val (.ref t1), .val (.int p1), .val (.int i1)] [(.int p1), (.int (f1 i))])) t := by
        intro t kt
        show Steps p.tables e below (s₁.setTop (mkF m 11 #[.val (.ref t1), .val (.int p1), .val (.int i1)] [(.int p1), (.int (f1 i))])) _
        refine XS.icmpNo X0.here hx rfl (hb hby d6_11) rfl (teq hc23).2 ?_
        show Steps p.tables e below (s₁.setTop (mkF m 14 #[.val (.ref t1), .val (.int p1), .val (.int i1)] [])) _
        refine XS.iconst X0.here hx rfl (hb hby d6_14) ?_
        show Steps p.tables e below (s₁.setTop (mkF m 15 #[.val (.ref t1), .val (.int p1), .val (.int i1)] [(.int (1 : Int32))])) _
        refine XS.goto X0.here hx rfl (pc0 := 15) (pc' := 19) rfl (hb hby d6_15) (by decide) (by decide) ?_
        exact kt
      have C25 : ∀ t, Steps p.tables e below (s₁.setTop (mkF m 19 #[.val (.ref t1), .val (.int p1), .val (.int i1)] [(.int (1 : Int32))])) t → Steps p.tables e below (s₁.setTop (mkF m 0 #[.val (.ref t1), .val (.int p1), .val (.int i1)] [])) t := (fun t k => (S18 t (S22 t (S24 t k))))
      obtain ⟨fs, hr, hrun, hended, hW, hsame⟩ := X0.leave (v := some (.int (1 : Int32))) (fun h => by rw [Bd.returns] at h; cases h)
      refine ⟨_, _, pre0 _ (C25 _ ?_), hrun, hended, _, _, rfl, ?_, ⟨_, rfl⟩, hW, hsame.mono (by decide) (by decide)⟩
      · exact retN X0 hx (t := .boolean) Bd.returns (by simp) (hb hby d6_19) hr
      · show Q_rm6 Z t1 p1 i1 i n f1 h0 n0 _ s₁.heap _
        rw [e0]
        exact ⟨by simp only [own_stop, if_neg hc19, if_pos hc23] <;> rfl, N0, rfl⟩
    · have S26 : ∀ t, Steps p.tables e below (s₁.setTop (mkF m 19 #[.val (.ref t1), .val (.int p1), .val (.int i1)] [(.int (0 : Int32))])) t → Steps p.tables e below (s₁.setTop (mkF m 11 #[.val (.ref t1), .val (.int p1), .val (.int i1)] [(.int p1), (.int (f1 i))])) t := by
        intro t kt
        show Steps p.tables e below (s₁.setTop (mkF m 11 #[.val (.ref t1), .val (.int p1), .val (.int i1)] [(.int p1), (.int (f1 i))])) _
        refine XS.icmpYes X0.here hx rfl (pc0 := 11) (pc' := 18) rfl (hb hby d6_11) rfl (feq hc23).2 (by decide) (by decide) ?_
        show Steps p.tables e below (s₁.setTop (mkF m 18 #[.val (.ref t1), .val (.int p1), .val (.int i1)] [])) _
        refine XS.iconst X0.here hx rfl (hb hby d6_18) ?_
        exact kt
      have C27 : ∀ t, Steps p.tables e below (s₁.setTop (mkF m 19 #[.val (.ref t1), .val (.int p1), .val (.int i1)] [(.int (0 : Int32))])) t → Steps p.tables e below (s₁.setTop (mkF m 0 #[.val (.ref t1), .val (.int p1), .val (.int i1)] [])) t := (fun t k => (S18 t (S22 t (S26 t k))))
      obtain ⟨fs, hr, hrun, hended, hW, hsame⟩ := X0.leave (v := some (.int (0 : Int32))) (fun h => by rw [Bd.returns] at h; cases h)
      refine ⟨_, _, pre0 _ (C27 _ ?_), hrun, hended, _, _, rfl, ?_, ⟨_, rfl⟩, hW, hsame.mono (by decide) (by decide)⟩
      · exact retN X0 hx (t := .boolean) Bd.returns (by simp) (hb hby d6_19) hr
      · show Q_rm6 Z t1 p1 i1 i n f1 h0 n0 _ s₁.heap _
        rw [e0]
        exact ⟨by simp only [own_stop, if_neg hc19, if_neg hc23] <;> rfl, N0, rfl⟩
theorem ef_rm_t2 (m : MethodId) (x0 : Int32) (x1 : Int32) (x2 : Int32) (x3 : Int32) (x4 : Int32) : entryFrame m #[(.int x0), (.int x1), (.int x2), (.int x3), (.int x4)] 6 = mkF m 0 #[.val (.int x0), .val (.int x1), .val (.int x2), .val (.int x3), .val (.int x4), .unset] [] := by first | (simp [entryFrame, mkF, argsToLocals, Value.category]; done) | rfl
def Q_rm_t2 (Z : State) (o1 : Int32) (p1 : Int32) (x1 : Int32) (y1 : Int32) (h0 : Heap) (n0 : Nat) (v : Option Value) (h : Heap) (L : List Loc) : Prop := ∃ t : Addr, v = some (.ref t) ∧ Fr n0 L ∧ Keep h0 h [] ∧ h0.size ≤ t ∧ ArF Z h t .int 2 (fun q => (.int (own_tab o1 p1 x1 y1 q)))
set_option maxRecDepth 65536 in
set_option maxHeartbeats 40000000 in
theorem rm_t2 (l : Launch) (Z : State) (a0 : Array Value) (hw : ∀ d ∈ tables_1, d.before a0 Z = true) (ws : List Jvm.Cond) (o1 : Int32) (p1 : Int32) (x1 : Int32) (y1 : Int32) (h0 : Heap) (n0 : Nat) (Z0 : n0 ≤ h0.size)  :
    MetFree l (⟨"com/example/bough3/bough3/model/PrincipalSlotsSlotOfPinLaw", "table", "(IIIII)[I"⟩ : MethodName) (head1 (Jvm.Cond.code (⟨"com/example/bough3/bough3/model/PrincipalSlotsSlotOfPinLaw", "table", "(IIIII)[I"⟩ : MethodName) method_4_code 6 (some (.array .int)) :: ws) ({ frames := 1, cells := 1, slots := 2, locals := 17 } : Room)) (fun a U => a = #[(.int (2 : Int32)), (.int o1), (.int p1), (.int x1), (.int y1)] ∧ Z.Warmed39 U.vm ∧ U.heap = h0) (fun _ _ _ _ _ => True) (fun _ U o U' => ∃ v L, o = .returned v ∧ Q_rm_t2 Z o1 p1 x1 y1 h0 n0 v U'.heap L ∧ FrameEnd U o U' L ({ frames := 1, cells := 1, slots := 2, locals := 17 } : Room).cells ({ frames := 1, cells := 1, slots := 2, locals := 17 } : Room).slots) := by
  refine MetFree.of_bodySF (plainFor_of_name pn_0) hisR ?_
  intro p e s m args below meth c s₁ Bd hml0 hP hK
  obtain ⟨rfl, hZ, hh⟩ := hP
  have hx := Bd.exec
  have hby := Bd.bytes
  have hml : c.maxLocals = 6 := hml0
  have hown : s.vm.findClass "com/example/bough3/bough3/model/PrincipalSlotsSlotOfPinLaw" = some m.cls := findClass_of_methodNamed Bd.named
  have hnm := (name_of_methodNamed Bd.named Bd.method).1
  have X0 : Stand p l e ({ frames := 1, cells := 1, slots := 2, locals := 17 } : Room) s m #[(.int (2 : Int32)), (.int o1), (.int p1), (.int x1), (.int y1)] below meth c s₁ [] 0 0 := Stand.of_body Bd
  have e0 : s₁.heap = h0 := by rw [← hh, Bd.state]; rfl
  have N0 := Fr.nil n0
  have pre0 : ∀ t, Steps p.tables e below (s₁.setTop (mkF m 0 #[.val (.int (2 : Int32)), .val (.int o1), .val (.int p1), .val (.int x1), .val (.int y1), .unset] [])) t → Steps p.tables e below (s₁.setTop (entryFrame m #[(.int (2 : Int32)), (.int o1), (.int p1), (.int x1), (.int y1)] 6)) t := fun t k => castTop (ef_rm_t2 m (2 : Int32) o1 p1 x1 y1) k
  have S28 : ∀ t, Steps p.tables e below (s₁.setTop (mkF m 1 #[.val (.int (2 : Int32)), .val (.int o1), .val (.int p1), .val (.int x1), .val (.int y1), .unset] [(.int (2 : Int32))])) t → Steps p.tables e below (s₁.setTop (mkF m 0 #[.val (.int (2 : Int32)), .val (.int o1), .val (.int p1), .val (.int x1), .val (.int y1), .unset] [])) t := by
    intro t kt
    show Steps p.tables e below (s₁.setTop (mkF m 0 #[.val (.int (2 : Int32)), .val (.int o1), .val (.int p1), .val (.int x1), .val (.int y1), .unset] [])) _
    refine XS.iloadN X0.here hx rfl (hb hby d1_0) rfl ?_
    exact kt
  obtain ⟨T29, h29, k29, X29, e29, E29, A29, st29⟩ := newP X0 hx hZ (hw _ (List.mem_of_getElem? (i := 5) rfl)) e0 (g := (mkF m 1 #[.val (.int (2 : Int32)), .val (.int o1), .val (.int p1), .val (.int x1), .val (.int y1), .unset] [(.int (2 : Int32))])) rfl (hb hby d1_1) rfl (by decide) (cap := 2) (by decide) (by decide) (by decide) (by decide)
  obtain ⟨b29, g29⟩ : ∃ z, z = h0.size := ⟨_, rfl⟩
  rw [← g29] at A29 st29
  have g_b29 : n0 ≤ b29 := Nat.le_trans Z0 (Nat.le_of_eq g29.symm)
  have K30 := (Keep.refl h0 [])
  have sz_b29 : h0.size ≤ b29 := Nat.le_trans K30.1 (Nat.le_of_eq g29.symm)
  have z31 : n0 ≤ h29.size := Nat.le_trans Z0 E29.1
  have V29 : ArF Z h29 b29 .int 2 (fun _ => (.int (0 : Int32))) := ArF.new A29 (by decide) rfl
  have S32 : ∀ t, Steps p.tables e below (T29.setTop (mkF m 10 #[.val (.int (2 : Int32)), .val (.int o1), .val (.int p1), .val (.int x1), .val (.int y1), .val (.ref b29)] [(.int (0 : Int32)), (.int o1), (.int (0 : Int32)), (.ref b29)])) t → Steps p.tables e below (T29.setTop (mkF m 3 #[.val (.int (2 : Int32)), .val (.int o1), .val (.int p1), .val (.int x1), .val (.int y1), .unset] [(.ref b29)])) t := by
    intro t kt
    show Steps p.tables e below (T29.setTop (mkF m 3 #[.val (.int (2 : Int32)), .val (.int o1), .val (.int p1), .val (.int x1), .val (.int y1), .unset] [(.ref b29)])) _
    refine XS.astore X29.here hx rfl (hb hby d1_3) rfl rfl (l' := #[.val (.int (2 : Int32)), .val (.int o1), .val (.int p1), .val (.int x1), .val (.int y1), .val (.ref b29)]) rfl ?_
    show Steps p.tables e below (T29.setTop (mkF m 5 #[.val (.int (2 : Int32)), .val (.int o1), .val (.int p1), .val (.int x1), .val (.int y1), .val (.ref b29)] [])) _
    refine XS.aload X29.here hx rfl (hb hby d1_5) rfl rfl ?_
    show Steps p.tables e below (T29.setTop (mkF m 7 #[.val (.int (2 : Int32)), .val (.int o1), .val (.int p1), .val (.int x1), .val (.int y1), .val (.ref b29)] [(.ref b29)])) _
    refine XS.iconst X29.here hx rfl (hb hby d1_7) ?_
    show Steps p.tables e below (T29.setTop (mkF m 8 #[.val (.int (2 : Int32)), .val (.int o1), .val (.int p1), .val (.int x1), .val (.int y1), .val (.ref b29)] [(.int (0 : Int32)), (.ref b29)])) _
    refine XS.iloadN X29.here hx rfl (hb hby d1_8) rfl ?_
    show Steps p.tables e below (T29.setTop (mkF m 9 #[.val (.int (2 : Int32)), .val (.int o1), .val (.int p1), .val (.int x1), .val (.int y1), .val (.ref b29)] [(.int o1), (.int (0 : Int32)), (.ref b29)])) _
    refine XS.iconst X29.here hx rfl (hb hby d1_9) ?_
    exact kt
  obtain ⟨_, _, ⟨T33, L33, k33, n33⟩, -, X33, ⟨Lc33, hQ33, l33, y33, z33⟩, st33⟩ := Jvm.LawKit.callS X29 hx (y := (⟨"com/example/bough3/bough3/model/PrincipalSlotsSlotOfPinLaw", "code", "(II)I"⟩ : MethodName)) hown (mvT hZ (hw _ (List.mem_of_getElem? (i := 6) rfl))) (mvT hZ (hw _ (List.mem_of_getElem? (i := 7) rfl))) (mvT hZ (hw _ (List.mem_of_getElem? (i := 3) rfl))) (mvT hZ (hw _ (List.mem_of_getElem? (i := 8) rfl))) (by decide) (backOf (W := 2) (rm2 l Z a0 hw [] o1 (0 : Int32) h29 n0 z31 ) hZ (hw _ (List.mem_of_getElem? (i := 8) rfl)) (hw _ (List.mem_of_getElem? (i := 3) rfl)) (by decide) (by decide)) (g := (mkF m 10 #[.val (.int (2 : Int32)), .val (.int o1), .val (.int p1), .val (.int x1), .val (.int y1), .val (.ref b29)] [(.int (0 : Int32)), (.int o1), (.int (0 : Int32)), (.ref b29)])) rfl (by rw [hml]; rfl) (argsL := [(.int o1), (.int (0 : Int32))]) (rest := [(.int (0 : Int32)), (.ref b29)]) (lenOf pd_0 rfl) rfl (by show 2 * 0 + _ ≤ _; exact Nat.le_of_eq rfl) (hb hby d1_10) (fun _ _ => ⟨rfl, e29, (by decide : 1 + 0 ≤ _), (by decide : 2 + 0 ≤ _)⟩)
  dsimp only [Pt.U, Pt.locs, Pt.cells, Pt.slots] at X33 l33 y33 z33 st33 hQ33
  subst l33 y33 z33
  obtain ⟨rfl, N33q, e33⟩ := hQ33
  have N33 := Fr.app N0 N33q
  have S34 : ∀ t, Steps p.tables e below (T33.setTop (mkF m 17 #[.val (.int (2 : Int32)), .val (.int o1), .val (.int p1), .val (.int x1), .val (.int y1), .val (.ref b29)] [(.int y1), (.int x1), (.int p1), (.int (own_code o1 (0 : Int32))), (.int (0 : Int32)), (.ref b29)])) t → Steps p.tables e below (T33.setTop (mkF m 13 #[.val (.int (2 : Int32)), .val (.int o1), .val (.int p1), .val (.int x1), .val (.int y1), .val (.ref b29)] [(.int (own_code o1 (0 : Int32))), (.int (0 : Int32)), (.ref b29)])) t := by
    intro t kt
    show Steps p.tables e below (T33.setTop (mkF m 13 #[.val (.int (2 : Int32)), .val (.int o1), .val (.int p1), .val (.int x1), .val (.int y1), .val (.ref b29)] [(.int (own_code o1 (0 : Int32))), (.int (0 : Int32)), (.ref b29)])) _
    refine XS.iloadN X33.here hx rfl (hb hby d1_13) rfl ?_
    show Steps p.tables e below (T33.setTop (mkF m 14 #[.val (.int (2 : Int32)), .val (.int o1), .val (.int p1), .val (.int x1), .val (.int y1), .val (.ref b29)] [(.int p1), (.int (own_code o1 (0 : Int32))), (.int (0 : Int32)), (.ref b29)])) _
    refine XS.iloadN X33.here hx rfl (hb hby d1_14) rfl ?_
    show Steps p.tables e below (T33.setTop (mkF m 15 #[.val (.int (2 : Int32)), .val (.int o1), .val (.int p1), .val (.int x1), .val (.int y1), .val (.ref b29)] [(.int x1), (.int p1), (.int (own_code o1 (0 : Int32))), (.int (0 : Int32)), (.ref b29)])) _
    refine XS.iload X33.here hx rfl (hb hby d1_15) rfl ?_
    exact kt
  obtain ⟨_, _, ⟨T35, L35, k35, n35⟩, -, X35, ⟨Lc35, hQ35, l35, y35, z35⟩, st35⟩ := Jvm.LawKit.callS X33 hx (y := (⟨"com/example/bough3/bough3/model/PrincipalSlotsSlotOfPinLaw", "value", "(IIII)I"⟩ : MethodName)) hown (mvT hZ (hw _ (List.mem_of_getElem? (i := 9) rfl))) (mvT hZ (hw _ (List.mem_of_getElem? (i := 10) rfl))) (mvT hZ (hw _ (List.mem_of_getElem? (i := 3) rfl))) (mvT hZ (hw _ (List.mem_of_getElem? (i := 11) rfl))) (by decide) (backOf (W := 2) (rm3 l Z a0 hw [] (own_code o1 (0 : Int32)) p1 x1 y1 h29 n0 z31 ) hZ (hw _ (List.mem_of_getElem? (i := 11) rfl)) (hw _ (List.mem_of_getElem? (i := 3) rfl)) (by decide) (by decide)) (g := (mkF m 17 #[.val (.int (2 : Int32)), .val (.int o1), .val (.int p1), .val (.int x1), .val (.int y1), .val (.ref b29)] [(.int y1), (.int x1), (.int p1), (.int (own_code o1 (0 : Int32))), (.int (0 : Int32)), (.ref b29)])) rfl (by rw [hml]; rfl) (argsL := [(.int (own_code o1 (0 : Int32))), (.int p1), (.int x1), (.int y1)]) (rest := [(.int (0 : Int32)), (.ref b29)]) (lenOf pd_1 rfl) rfl (by show 2 * 0 + _ ≤ _; exact Nat.le_of_eq rfl) (hb hby d1_17) (fun _ _ => ⟨rfl, e33, (by decide : 1 + 0 ≤ _), (by decide : 2 + 0 ≤ _)⟩)
  dsimp only [Pt.U, Pt.locs, Pt.cells, Pt.slots] at X35 l35 y35 z35 st35 hQ35
  subst l35 y35 z35
  obtain ⟨rfl, N35q, e35⟩ := hQ35
  have N35 := Fr.app N33 N35q
  obtain ⟨T36, h36, X36, e36, W36, V36, st36⟩ := ArF.stI X35 hx hZ e35 V29 (i := 0) (by decide) (by decide) (g := (mkF m 20 #[.val (.int (2 : Int32)), .val (.int o1), .val (.int p1), .val (.int x1), .val (.int y1), .val (.ref b29)] [(.int (own_val (own_code o1 (0 : Int32)) p1 x1 y1)), (.int (0 : Int32)), (.ref b29)])) rfl rfl (hb hby d1_20)
  have z37 : n0 ≤ h36.size := Nat.le_trans z31 (Keep.of_wr W36).1
  have N38 := Fr.snoc X36 N35 g_b29
  have S39 : ∀ t, Steps p.tables e below (T36.setTop (mkF m 26 #[.val (.int (2 : Int32)), .val (.int o1), .val (.int p1), .val (.int x1), .val (.int y1), .val (.ref b29)] [(.int (1 : Int32)), (.int o1), (.int (1 : Int32)), (.ref b29)])) t → Steps p.tables e below (T36.setTop (mkF m 21 #[.val (.int (2 : Int32)), .val (.int o1), .val (.int p1), .val (.int x1), .val (.int y1), .val (.ref b29)] [])) t := by
    intro t kt
    show Steps p.tables e below (T36.setTop (mkF m 21 #[.val (.int (2 : Int32)), .val (.int o1), .val (.int p1), .val (.int x1), .val (.int y1), .val (.ref b29)] [])) _
    refine XS.aload X36.here hx rfl (hb hby d1_21) rfl rfl ?_
    show Steps p.tables e below (T36.setTop (mkF m 23 #[.val (.int (2 : Int32)), .val (.int o1), .val (.int p1), .val (.int x1), .val (.int y1), .val (.ref b29)] [(.ref b29)])) _
    refine XS.iconst X36.here hx rfl (hb hby d1_23) ?_
    show Steps p.tables e below (T36.setTop (mkF m 24 #[.val (.int (2 : Int32)), .val (.int o1), .val (.int p1), .val (.int x1), .val (.int y1), .val (.ref b29)] [(.int (1 : Int32)), (.ref b29)])) _
    refine XS.iloadN X36.here hx rfl (hb hby d1_24) rfl ?_
    show Steps p.tables e below (T36.setTop (mkF m 25 #[.val (.int (2 : Int32)), .val (.int o1), .val (.int p1), .val (.int x1), .val (.int y1), .val (.ref b29)] [(.int o1), (.int (1 : Int32)), (.ref b29)])) _
    refine XS.iconst X36.here hx rfl (hb hby d1_25) ?_
    exact kt
  obtain ⟨_, _, ⟨T40, L40, k40, n40⟩, -, X40, ⟨Lc40, hQ40, l40, y40, z40⟩, st40⟩ := Jvm.LawKit.callS X36 hx (y := (⟨"com/example/bough3/bough3/model/PrincipalSlotsSlotOfPinLaw", "code", "(II)I"⟩ : MethodName)) hown (mvT hZ (hw _ (List.mem_of_getElem? (i := 6) rfl))) (mvT hZ (hw _ (List.mem_of_getElem? (i := 7) rfl))) (mvT hZ (hw _ (List.mem_of_getElem? (i := 3) rfl))) (mvT hZ (hw _ (List.mem_of_getElem? (i := 8) rfl))) (by decide) (backOf (W := 2) (rm2 l Z a0 hw [] o1 (1 : Int32) h36 n0 z37 ) hZ (hw _ (List.mem_of_getElem? (i := 8) rfl)) (hw _ (List.mem_of_getElem? (i := 3) rfl)) (by decide) (by decide)) (g := (mkF m 26 #[.val (.int (2 : Int32)), .val (.int o1), .val (.int p1), .val (.int x1), .val (.int y1), .val (.ref b29)] [(.int (1 : Int32)), (.int o1), (.int (1 : Int32)), (.ref b29)])) rfl (by rw [hml]; rfl) (argsL := [(.int o1), (.int (1 : Int32))]) (rest := [(.int (1 : Int32)), (.ref b29)]) (lenOf pd_0 rfl) rfl (by show 2 * 0 + _ ≤ _; exact Nat.le_of_eq rfl) (hb hby d1_26) (fun _ _ => ⟨rfl, e36, (by decide : 1 + 0 ≤ _), (by decide : 2 + 0 ≤ _)⟩)
  dsimp only [Pt.U, Pt.locs, Pt.cells, Pt.slots] at X40 l40 y40 z40 st40 hQ40
  subst l40 y40 z40
  obtain ⟨rfl, N40q, e40⟩ := hQ40
  have N40 := Fr.app N38 N40q
  have S41 : ∀ t, Steps p.tables e below (T40.setTop (mkF m 33 #[.val (.int (2 : Int32)), .val (.int o1), .val (.int p1), .val (.int x1), .val (.int y1), .val (.ref b29)] [(.int y1), (.int x1), (.int p1), (.int (own_code o1 (1 : Int32))), (.int (1 : Int32)), (.ref b29)])) t → Steps p.tables e below (T40.setTop (mkF m 29 #[.val (.int (2 : Int32)), .val (.int o1), .val (.int p1), .val (.int x1), .val (.int y1), .val (.ref b29)] [(.int (own_code o1 (1 : Int32))), (.int (1 : Int32)), (.ref b29)])) t := by
    intro t kt
    show Steps p.tables e below (T40.setTop (mkF m 29 #[.val (.int (2 : Int32)), .val (.int o1), .val (.int p1), .val (.int x1), .val (.int y1), .val (.ref b29)] [(.int (own_code o1 (1 : Int32))), (.int (1 : Int32)), (.ref b29)])) _
    refine XS.iloadN X40.here hx rfl (hb hby d1_29) rfl ?_
    show Steps p.tables e below (T40.setTop (mkF m 30 #[.val (.int (2 : Int32)), .val (.int o1), .val (.int p1), .val (.int x1), .val (.int y1), .val (.ref b29)] [(.int p1), (.int (own_code o1 (1 : Int32))), (.int (1 : Int32)), (.ref b29)])) _
    refine XS.iloadN X40.here hx rfl (hb hby d1_30) rfl ?_
    show Steps p.tables e below (T40.setTop (mkF m 31 #[.val (.int (2 : Int32)), .val (.int o1), .val (.int p1), .val (.int x1), .val (.int y1), .val (.ref b29)] [(.int x1), (.int p1), (.int (own_code o1 (1 : Int32))), (.int (1 : Int32)), (.ref b29)])) _
    refine XS.iload X40.here hx rfl (hb hby d1_31) rfl ?_
    exact kt
  obtain ⟨_, _, ⟨T42, L42, k42, n42⟩, -, X42, ⟨Lc42, hQ42, l42, y42, z42⟩, st42⟩ := Jvm.LawKit.callS X40 hx (y := (⟨"com/example/bough3/bough3/model/PrincipalSlotsSlotOfPinLaw", "value", "(IIII)I"⟩ : MethodName)) hown (mvT hZ (hw _ (List.mem_of_getElem? (i := 9) rfl))) (mvT hZ (hw _ (List.mem_of_getElem? (i := 10) rfl))) (mvT hZ (hw _ (List.mem_of_getElem? (i := 3) rfl))) (mvT hZ (hw _ (List.mem_of_getElem? (i := 11) rfl))) (by decide) (backOf (W := 2) (rm3 l Z a0 hw [] (own_code o1 (1 : Int32)) p1 x1 y1 h36 n0 z37 ) hZ (hw _ (List.mem_of_getElem? (i := 11) rfl)) (hw _ (List.mem_of_getElem? (i := 3) rfl)) (by decide) (by decide)) (g := (mkF m 33 #[.val (.int (2 : Int32)), .val (.int o1), .val (.int p1), .val (.int x1), .val (.int y1), .val (.ref b29)] [(.int y1), (.int x1), (.int p1), (.int (own_code o1 (1 : Int32))), (.int (1 : Int32)), (.ref b29)])) rfl (by rw [hml]; rfl) (argsL := [(.int (own_code o1 (1 : Int32))), (.int p1), (.int x1), (.int y1)]) (rest := [(.int (1 : Int32)), (.ref b29)]) (lenOf pd_1 rfl) rfl (by show 2 * 0 + _ ≤ _; exact Nat.le_of_eq rfl) (hb hby d1_33) (fun _ _ => ⟨rfl, e40, (by decide : 1 + 0 ≤ _), (by decide : 2 + 0 ≤ _)⟩)
  dsimp only [Pt.U, Pt.locs, Pt.cells, Pt.slots] at X42 l42 y42 z42 st42 hQ42
  subst l42 y42 z42
  obtain ⟨rfl, N42q, e42⟩ := hQ42
  have N42 := Fr.app N40 N42q
  obtain ⟨T43, h43, X43, e43, W43, V43, st43⟩ := ArF.stI X42 hx hZ e42 V36 (i := 1) (by decide) (by decide) (g := (mkF m 36 #[.val (.int (2 : Int32)), .val (.int o1), .val (.int p1), .val (.int x1), .val (.int y1), .val (.ref b29)] [(.int (own_val (own_code o1 (1 : Int32)) p1 x1 y1)), (.int (1 : Int32)), (.ref b29)])) rfl rfl (hb hby d1_36)
  have z44 : n0 ≤ h43.size := Nat.le_trans z37 (Keep.of_wr W43).1
  have N45 := Fr.snoc X43 N42 g_b29
  have S46 : ∀ t, Steps p.tables e below (T43.setTop (mkF m 149 #[.val (.int (2 : Int32)), .val (.int o1), .val (.int p1), .val (.int x1), .val (.int y1), .val (.ref b29)] [(.ref b29)])) t → Steps p.tables e below (T43.setTop (mkF m 37 #[.val (.int (2 : Int32)), .val (.int o1), .val (.int p1), .val (.int x1), .val (.int y1), .val (.ref b29)] [])) t := by
    intro t kt
    show Steps p.tables e below (T43.setTop (mkF m 37 #[.val (.int (2 : Int32)), .val (.int o1), .val (.int p1), .val (.int x1), .val (.int y1), .val (.ref b29)] [])) _
    refine XS.iloadN X43.here hx rfl (hb hby d1_37) rfl ?_
    show Steps p.tables e below (T43.setTop (mkF m 38 #[.val (.int (2 : Int32)), .val (.int o1), .val (.int p1), .val (.int x1), .val (.int y1), .val (.ref b29)] [(.int (2 : Int32))])) _
    refine XS.iconst X43.here hx rfl (hb hby d1_38) ?_
    show Steps p.tables e below (T43.setTop (mkF m 39 #[.val (.int (2 : Int32)), .val (.int o1), .val (.int p1), .val (.int x1), .val (.int y1), .val (.ref b29)] [(.int (2 : Int32)), (.int (2 : Int32))])) _
    refine XS.icmpYes X43.here hx rfl (pc0 := 39) (pc' := 74) rfl (hb hby d1_39) rfl (flt (by decide)).2.2.2 (by decide) (by decide) ?_
    show Steps p.tables e below (T43.setTop (mkF m 74 #[.val (.int (2 : Int32)), .val (.int o1), .val (.int p1), .val (.int x1), .val (.int y1), .val (.ref b29)] [])) _
    refine XS.iloadN X43.here hx rfl (hb hby d1_74) rfl ?_
    show Steps p.tables e below (T43.setTop (mkF m 75 #[.val (.int (2 : Int32)), .val (.int o1), .val (.int p1), .val (.int x1), .val (.int y1), .val (.ref b29)] [(.int (2 : Int32))])) _
    refine XS.iconst X43.here hx rfl (hb hby d1_75) ?_
    show Steps p.tables e below (T43.setTop (mkF m 76 #[.val (.int (2 : Int32)), .val (.int o1), .val (.int p1), .val (.int x1), .val (.int y1), .val (.ref b29)] [(.int (4 : Int32)), (.int (2 : Int32))])) _
    refine XS.icmpYes X43.here hx rfl (pc0 := 76) (pc' := 147) rfl (hb hby d1_76) rfl (flt (by decide)).2.2.2 (by decide) (by decide) ?_
    show Steps p.tables e below (T43.setTop (mkF m 147 #[.val (.int (2 : Int32)), .val (.int o1), .val (.int p1), .val (.int x1), .val (.int y1), .val (.ref b29)] [])) _
    refine XS.aload X43.here hx rfl (hb hby d1_147) rfl rfl ?_
    exact kt
  have C47 : ∀ t, Steps p.tables e below (T43.setTop (mkF m 149 #[.val (.int (2 : Int32)), .val (.int o1), .val (.int p1), .val (.int x1), .val (.int y1), .val (.ref b29)] [(.ref b29)])) t → Steps p.tables e below (s₁.setTop (mkF m 0 #[.val (.int (2 : Int32)), .val (.int o1), .val (.int p1), .val (.int x1), .val (.int y1), .unset] [])) t := (fun t k => (S28 t (st29 t (S32 t (st33 t (S34 t (st35 t (st36 t (S39 t (st40 t (S41 t (st42 t (st43 t (S46 t k))))))))))))))
  obtain ⟨fs, hr, hrun, hended, hW, hsame⟩ := X43.leave (v := some (.ref b29)) (fun h => by rw [Bd.returns] at h; cases h)
  refine ⟨_, _, pre0 _ (C47 _ ?_), hrun, hended, _, _, rfl, ?_, ⟨_, rfl⟩, hW, hsame.mono (by decide) (by decide)⟩
  · exact retOut X43 hx Bd.returns rfl (Or.inr (Or.inr (Or.inr (Or.inr ⟨rfl, rfl, rfl⟩)))) (hb hby d1_149) hr
  · show Q_rm_t2 Z o1 p1 x1 y1 h0 n0 _ T43.heap _
    rw [e43]
    have V48 := V43.congr (f' := (fun q => (.int (own_tab o1 p1 x1 y1 q)))) (fun q hq => by rcases (show q = 0 ∨ q = 1 by omega) with rfl | rfl <;> rfl)
    exact ⟨_, rfl, N45, (((K30.ext E29).wr W36 (Or.inr sz_b29)).wr W43 (Or.inr sz_b29)), sz_b29, V48⟩
theorem ef_rm_t4 (m : MethodId) (x0 : Int32) (x1 : Int32) (x2 : Int32) (x3 : Int32) (x4 : Int32) : entryFrame m #[(.int x0), (.int x1), (.int x2), (.int x3), (.int x4)] 6 = mkF m 0 #[.val (.int x0), .val (.int x1), .val (.int x2), .val (.int x3), .val (.int x4), .unset] [] := by first | (simp [entryFrame, mkF, argsToLocals, Value.category]; done) | rfl
def Q_rm_t4 (Z : State) (o1 : Int32) (p1 : Int32) (x1 : Int32) (y1 : Int32) (h0 : Heap) (n0 : Nat) (v : Option Value) (h : Heap) (L : List Loc) : Prop := ∃ t : Addr, v = some (.ref t) ∧ Fr n0 L ∧ Keep h0 h [] ∧ h0.size ≤ t ∧ ArF Z h t .int 4 (fun q => (.int (own_tab o1 p1 x1 y1 q)))
set_option maxRecDepth 65536 in
set_option maxHeartbeats 40000000 in
theorem rm_t4 (l : Launch) (Z : State) (a0 : Array Value) (hw : ∀ d ∈ tables_1, d.before a0 Z = true) (ws : List Jvm.Cond) (o1 : Int32) (p1 : Int32) (x1 : Int32) (y1 : Int32) (h0 : Heap) (n0 : Nat) (Z0 : n0 ≤ h0.size)  :
    MetFree l (⟨"com/example/bough3/bough3/model/PrincipalSlotsSlotOfPinLaw", "table", "(IIIII)[I"⟩ : MethodName) (head1 (Jvm.Cond.code (⟨"com/example/bough3/bough3/model/PrincipalSlotsSlotOfPinLaw", "table", "(IIIII)[I"⟩ : MethodName) method_4_code 6 (some (.array .int)) :: ws) ({ frames := 1, cells := 1, slots := 4, locals := 17 } : Room)) (fun a U => a = #[(.int (4 : Int32)), (.int o1), (.int p1), (.int x1), (.int y1)] ∧ Z.Warmed39 U.vm ∧ U.heap = h0) (fun _ _ _ _ _ => True) (fun _ U o U' => ∃ v L, o = .returned v ∧ Q_rm_t4 Z o1 p1 x1 y1 h0 n0 v U'.heap L ∧ FrameEnd U o U' L ({ frames := 1, cells := 1, slots := 4, locals := 17 } : Room).cells ({ frames := 1, cells := 1, slots := 4, locals := 17 } : Room).slots) := by
  refine MetFree.of_bodySF (plainFor_of_name pn_0) hisR ?_
  intro p e s m args below meth c s₁ Bd hml0 hP hK
  obtain ⟨rfl, hZ, hh⟩ := hP
  have hx := Bd.exec
  have hby := Bd.bytes
  have hml : c.maxLocals = 6 := hml0
  have hown : s.vm.findClass "com/example/bough3/bough3/model/PrincipalSlotsSlotOfPinLaw" = some m.cls := findClass_of_methodNamed Bd.named
  have hnm := (name_of_methodNamed Bd.named Bd.method).1
  have X0 : Stand p l e ({ frames := 1, cells := 1, slots := 4, locals := 17 } : Room) s m #[(.int (4 : Int32)), (.int o1), (.int p1), (.int x1), (.int y1)] below meth c s₁ [] 0 0 := Stand.of_body Bd
  have e0 : s₁.heap = h0 := by rw [← hh, Bd.state]; rfl
  have N0 := Fr.nil n0
  have pre0 : ∀ t, Steps p.tables e below (s₁.setTop (mkF m 0 #[.val (.int (4 : Int32)), .val (.int o1), .val (.int p1), .val (.int x1), .val (.int y1), .unset] [])) t → Steps p.tables e below (s₁.setTop (entryFrame m #[(.int (4 : Int32)), (.int o1), (.int p1), (.int x1), (.int y1)] 6)) t := fun t k => castTop (ef_rm_t4 m (4 : Int32) o1 p1 x1 y1) k
  have S49 : ∀ t, Steps p.tables e below (s₁.setTop (mkF m 1 #[.val (.int (4 : Int32)), .val (.int o1), .val (.int p1), .val (.int x1), .val (.int y1), .unset] [(.int (4 : Int32))])) t → Steps p.tables e below (s₁.setTop (mkF m 0 #[.val (.int (4 : Int32)), .val (.int o1), .val (.int p1), .val (.int x1), .val (.int y1), .unset] [])) t := by
    intro t kt
    show Steps p.tables e below (s₁.setTop (mkF m 0 #[.val (.int (4 : Int32)), .val (.int o1), .val (.int p1), .val (.int x1), .val (.int y1), .unset] [])) _
    refine XS.iloadN X0.here hx rfl (hb hby d1_0) rfl ?_
    exact kt
  obtain ⟨T50, h50, k50, X50, e50, E50, A50, st50⟩ := newP X0 hx hZ (hw _ (List.mem_of_getElem? (i := 5) rfl)) e0 (g := (mkF m 1 #[.val (.int (4 : Int32)), .val (.int o1), .val (.int p1), .val (.int x1), .val (.int y1), .unset] [(.int (4 : Int32))])) rfl (hb hby d1_1) rfl (by decide) (cap := 4) (by decide) (by decide) (by decide) (by decide)
  obtain ⟨b50, g50⟩ : ∃ z, z = h0.size := ⟨_, rfl⟩
  rw [← g50] at A50 st50
  have g_b50 : n0 ≤ b50 := Nat.le_trans Z0 (Nat.le_of_eq g50.symm)
  have K51 := (Keep.refl h0 [])
  have sz_b50 : h0.size ≤ b50 := Nat.le_trans K51.1 (Nat.le_of_eq g50.symm)
  have z52 : n0 ≤ h50.size := Nat.le_trans Z0 E50.1
  have V50 : ArF Z h50 b50 .int 4 (fun _ => (.int (0 : Int32))) := ArF.new A50 (by decide) rfl
  have S53 : ∀ t, Steps p.tables e below (T50.setTop (mkF m 10 #[.val (.int (4 : Int32)), .val (.int o1), .val (.int p1), .val (.int x1), .val (.int y1), .val (.ref b50)] [(.int (0 : Int32)), (.int o1), (.int (0 : Int32)), (.ref b50)])) t → Steps p.tables e below (T50.setTop (mkF m 3 #[.val (.int (4 : Int32)), .val (.int o1), .val (.int p1), .val (.int x1), .val (.int y1), .unset] [(.ref b50)])) t := by
    intro t kt
    show Steps p.tables e below (T50.setTop (mkF m 3 #[.val (.int (4 : Int32)), .val (.int o1), .val (.int p1), .val (.int x1), .val (.int y1), .unset] [(.ref b50)])) _
    refine XS.astore X50.here hx rfl (hb hby d1_3) rfl rfl (l' := #[.val (.int (4 : Int32)), .val (.int o1), .val (.int p1), .val (.int x1), .val (.int y1), .val (.ref b50)]) rfl ?_
    show Steps p.tables e below (T50.setTop (mkF m 5 #[.val (.int (4 : Int32)), .val (.int o1), .val (.int p1), .val (.int x1), .val (.int y1), .val (.ref b50)] [])) _
    refine XS.aload X50.here hx rfl (hb hby d1_5) rfl rfl ?_
    show Steps p.tables e below (T50.setTop (mkF m 7 #[.val (.int (4 : Int32)), .val (.int o1), .val (.int p1), .val (.int x1), .val (.int y1), .val (.ref b50)] [(.ref b50)])) _
    refine XS.iconst X50.here hx rfl (hb hby d1_7) ?_
    show Steps p.tables e below (T50.setTop (mkF m 8 #[.val (.int (4 : Int32)), .val (.int o1), .val (.int p1), .val (.int x1), .val (.int y1), .val (.ref b50)] [(.int (0 : Int32)), (.ref b50)])) _
    refine XS.iloadN X50.here hx rfl (hb hby d1_8) rfl ?_
    show Steps p.tables e below (T50.setTop (mkF m 9 #[.val (.int (4 : Int32)), .val (.int o1), .val (.int p1), .val (.int x1), .val (.int y1), .val (.ref b50)] [(.int o1), (.int (0 : Int32)), (.ref b50)])) _
    refine XS.iconst X50.here hx rfl (hb hby d1_9) ?_
    exact kt
  obtain ⟨_, _, ⟨T54, L54, k54, n54⟩, -, X54, ⟨Lc54, hQ54, l54, y54, z54⟩, st54⟩ := Jvm.LawKit.callS X50 hx (y := (⟨"com/example/bough3/bough3/model/PrincipalSlotsSlotOfPinLaw", "code", "(II)I"⟩ : MethodName)) hown (mvT hZ (hw _ (List.mem_of_getElem? (i := 6) rfl))) (mvT hZ (hw _ (List.mem_of_getElem? (i := 7) rfl))) (mvT hZ (hw _ (List.mem_of_getElem? (i := 3) rfl))) (mvT hZ (hw _ (List.mem_of_getElem? (i := 8) rfl))) (by decide) (backOf (W := 2) (rm2 l Z a0 hw [] o1 (0 : Int32) h50 n0 z52 ) hZ (hw _ (List.mem_of_getElem? (i := 8) rfl)) (hw _ (List.mem_of_getElem? (i := 3) rfl)) (by decide) (by decide)) (g := (mkF m 10 #[.val (.int (4 : Int32)), .val (.int o1), .val (.int p1), .val (.int x1), .val (.int y1), .val (.ref b50)] [(.int (0 : Int32)), (.int o1), (.int (0 : Int32)), (.ref b50)])) rfl (by rw [hml]; rfl) (argsL := [(.int o1), (.int (0 : Int32))]) (rest := [(.int (0 : Int32)), (.ref b50)]) (lenOf pd_0 rfl) rfl (by show 2 * 0 + _ ≤ _; exact Nat.le_of_eq rfl) (hb hby d1_10) (fun _ _ => ⟨rfl, e50, (by decide : 1 + 0 ≤ _), (by decide : 4 + 0 ≤ _)⟩)
  dsimp only [Pt.U, Pt.locs, Pt.cells, Pt.slots] at X54 l54 y54 z54 st54 hQ54
  subst l54 y54 z54
  obtain ⟨rfl, N54q, e54⟩ := hQ54
  have N54 := Fr.app N0 N54q
  have S55 : ∀ t, Steps p.tables e below (T54.setTop (mkF m 17 #[.val (.int (4 : Int32)), .val (.int o1), .val (.int p1), .val (.int x1), .val (.int y1), .val (.ref b50)] [(.int y1), (.int x1), (.int p1), (.int (own_code o1 (0 : Int32))), (.int (0 : Int32)), (.ref b50)])) t → Steps p.tables e below (T54.setTop (mkF m 13 #[.val (.int (4 : Int32)), .val (.int o1), .val (.int p1), .val (.int x1), .val (.int y1), .val (.ref b50)] [(.int (own_code o1 (0 : Int32))), (.int (0 : Int32)), (.ref b50)])) t := by
    intro t kt
    show Steps p.tables e below (T54.setTop (mkF m 13 #[.val (.int (4 : Int32)), .val (.int o1), .val (.int p1), .val (.int x1), .val (.int y1), .val (.ref b50)] [(.int (own_code o1 (0 : Int32))), (.int (0 : Int32)), (.ref b50)])) _
    refine XS.iloadN X54.here hx rfl (hb hby d1_13) rfl ?_
    show Steps p.tables e below (T54.setTop (mkF m 14 #[.val (.int (4 : Int32)), .val (.int o1), .val (.int p1), .val (.int x1), .val (.int y1), .val (.ref b50)] [(.int p1), (.int (own_code o1 (0 : Int32))), (.int (0 : Int32)), (.ref b50)])) _
    refine XS.iloadN X54.here hx rfl (hb hby d1_14) rfl ?_
    show Steps p.tables e below (T54.setTop (mkF m 15 #[.val (.int (4 : Int32)), .val (.int o1), .val (.int p1), .val (.int x1), .val (.int y1), .val (.ref b50)] [(.int x1), (.int p1), (.int (own_code o1 (0 : Int32))), (.int (0 : Int32)), (.ref b50)])) _
    refine XS.iload X54.here hx rfl (hb hby d1_15) rfl ?_
    exact kt
  obtain ⟨_, _, ⟨T56, L56, k56, n56⟩, -, X56, ⟨Lc56, hQ56, l56, y56, z56⟩, st56⟩ := Jvm.LawKit.callS X54 hx (y := (⟨"com/example/bough3/bough3/model/PrincipalSlotsSlotOfPinLaw", "value", "(IIII)I"⟩ : MethodName)) hown (mvT hZ (hw _ (List.mem_of_getElem? (i := 9) rfl))) (mvT hZ (hw _ (List.mem_of_getElem? (i := 10) rfl))) (mvT hZ (hw _ (List.mem_of_getElem? (i := 3) rfl))) (mvT hZ (hw _ (List.mem_of_getElem? (i := 11) rfl))) (by decide) (backOf (W := 2) (rm3 l Z a0 hw [] (own_code o1 (0 : Int32)) p1 x1 y1 h50 n0 z52 ) hZ (hw _ (List.mem_of_getElem? (i := 11) rfl)) (hw _ (List.mem_of_getElem? (i := 3) rfl)) (by decide) (by decide)) (g := (mkF m 17 #[.val (.int (4 : Int32)), .val (.int o1), .val (.int p1), .val (.int x1), .val (.int y1), .val (.ref b50)] [(.int y1), (.int x1), (.int p1), (.int (own_code o1 (0 : Int32))), (.int (0 : Int32)), (.ref b50)])) rfl (by rw [hml]; rfl) (argsL := [(.int (own_code o1 (0 : Int32))), (.int p1), (.int x1), (.int y1)]) (rest := [(.int (0 : Int32)), (.ref b50)]) (lenOf pd_1 rfl) rfl (by show 2 * 0 + _ ≤ _; exact Nat.le_of_eq rfl) (hb hby d1_17) (fun _ _ => ⟨rfl, e54, (by decide : 1 + 0 ≤ _), (by decide : 4 + 0 ≤ _)⟩)
  dsimp only [Pt.U, Pt.locs, Pt.cells, Pt.slots] at X56 l56 y56 z56 st56 hQ56
  subst l56 y56 z56
  obtain ⟨rfl, N56q, e56⟩ := hQ56
  have N56 := Fr.app N54 N56q
  obtain ⟨T57, h57, X57, e57, W57, V57, st57⟩ := ArF.stI X56 hx hZ e56 V50 (i := 0) (by decide) (by decide) (g := (mkF m 20 #[.val (.int (4 : Int32)), .val (.int o1), .val (.int p1), .val (.int x1), .val (.int y1), .val (.ref b50)] [(.int (own_val (own_code o1 (0 : Int32)) p1 x1 y1)), (.int (0 : Int32)), (.ref b50)])) rfl rfl (hb hby d1_20)
  have z58 : n0 ≤ h57.size := Nat.le_trans z52 (Keep.of_wr W57).1
  have N59 := Fr.snoc X57 N56 g_b50
  have S60 : ∀ t, Steps p.tables e below (T57.setTop (mkF m 26 #[.val (.int (4 : Int32)), .val (.int o1), .val (.int p1), .val (.int x1), .val (.int y1), .val (.ref b50)] [(.int (1 : Int32)), (.int o1), (.int (1 : Int32)), (.ref b50)])) t → Steps p.tables e below (T57.setTop (mkF m 21 #[.val (.int (4 : Int32)), .val (.int o1), .val (.int p1), .val (.int x1), .val (.int y1), .val (.ref b50)] [])) t := by
    intro t kt
    show Steps p.tables e below (T57.setTop (mkF m 21 #[.val (.int (4 : Int32)), .val (.int o1), .val (.int p1), .val (.int x1), .val (.int y1), .val (.ref b50)] [])) _
    refine XS.aload X57.here hx rfl (hb hby d1_21) rfl rfl ?_
    show Steps p.tables e below (T57.setTop (mkF m 23 #[.val (.int (4 : Int32)), .val (.int o1), .val (.int p1), .val (.int x1), .val (.int y1), .val (.ref b50)] [(.ref b50)])) _
    refine XS.iconst X57.here hx rfl (hb hby d1_23) ?_
    show Steps p.tables e below (T57.setTop (mkF m 24 #[.val (.int (4 : Int32)), .val (.int o1), .val (.int p1), .val (.int x1), .val (.int y1), .val (.ref b50)] [(.int (1 : Int32)), (.ref b50)])) _
    refine XS.iloadN X57.here hx rfl (hb hby d1_24) rfl ?_
    show Steps p.tables e below (T57.setTop (mkF m 25 #[.val (.int (4 : Int32)), .val (.int o1), .val (.int p1), .val (.int x1), .val (.int y1), .val (.ref b50)] [(.int o1), (.int (1 : Int32)), (.ref b50)])) _
    refine XS.iconst X57.here hx rfl (hb hby d1_25) ?_
    exact kt
  obtain ⟨_, _, ⟨T61, L61, k61, n61⟩, -, X61, ⟨Lc61, hQ61, l61, y61, z61⟩, st61⟩ := Jvm.LawKit.callS X57 hx (y := (⟨"com/example/bough3/bough3/model/PrincipalSlotsSlotOfPinLaw", "code", "(II)I"⟩ : MethodName)) hown (mvT hZ (hw _ (List.mem_of_getElem? (i := 6) rfl))) (mvT hZ (hw _ (List.mem_of_getElem? (i := 7) rfl))) (mvT hZ (hw _ (List.mem_of_getElem? (i := 3) rfl))) (mvT hZ (hw _ (List.mem_of_getElem? (i := 8) rfl))) (by decide) (backOf (W := 2) (rm2 l Z a0 hw [] o1 (1 : Int32) h57 n0 z58 ) hZ (hw _ (List.mem_of_getElem? (i := 8) rfl)) (hw _ (List.mem_of_getElem? (i := 3) rfl)) (by decide) (by decide)) (g := (mkF m 26 #[.val (.int (4 : Int32)), .val (.int o1), .val (.int p1), .val (.int x1), .val (.int y1), .val (.ref b50)] [(.int (1 : Int32)), (.int o1), (.int (1 : Int32)), (.ref b50)])) rfl (by rw [hml]; rfl) (argsL := [(.int o1), (.int (1 : Int32))]) (rest := [(.int (1 : Int32)), (.ref b50)]) (lenOf pd_0 rfl) rfl (by show 2 * 0 + _ ≤ _; exact Nat.le_of_eq rfl) (hb hby d1_26) (fun _ _ => ⟨rfl, e57, (by decide : 1 + 0 ≤ _), (by decide : 4 + 0 ≤ _)⟩)
  dsimp only [Pt.U, Pt.locs, Pt.cells, Pt.slots] at X61 l61 y61 z61 st61 hQ61
  subst l61 y61 z61
  obtain ⟨rfl, N61q, e61⟩ := hQ61
  have N61 := Fr.app N59 N61q
  have S62 : ∀ t, Steps p.tables e below (T61.setTop (mkF m 33 #[.val (.int (4 : Int32)), .val (.int o1), .val (.int p1), .val (.int x1), .val (.int y1), .val (.ref b50)] [(.int y1), (.int x1), (.int p1), (.int (own_code o1 (1 : Int32))), (.int (1 : Int32)), (.ref b50)])) t → Steps p.tables e below (T61.setTop (mkF m 29 #[.val (.int (4 : Int32)), .val (.int o1), .val (.int p1), .val (.int x1), .val (.int y1), .val (.ref b50)] [(.int (own_code o1 (1 : Int32))), (.int (1 : Int32)), (.ref b50)])) t := by
    intro t kt
    show Steps p.tables e below (T61.setTop (mkF m 29 #[.val (.int (4 : Int32)), .val (.int o1), .val (.int p1), .val (.int x1), .val (.int y1), .val (.ref b50)] [(.int (own_code o1 (1 : Int32))), (.int (1 : Int32)), (.ref b50)])) _
    refine XS.iloadN X61.here hx rfl (hb hby d1_29) rfl ?_
    show Steps p.tables e below (T61.setTop (mkF m 30 #[.val (.int (4 : Int32)), .val (.int o1), .val (.int p1), .val (.int x1), .val (.int y1), .val (.ref b50)] [(.int p1), (.int (own_code o1 (1 : Int32))), (.int (1 : Int32)), (.ref b50)])) _
    refine XS.iloadN X61.here hx rfl (hb hby d1_30) rfl ?_
    show Steps p.tables e below (T61.setTop (mkF m 31 #[.val (.int (4 : Int32)), .val (.int o1), .val (.int p1), .val (.int x1), .val (.int y1), .val (.ref b50)] [(.int x1), (.int p1), (.int (own_code o1 (1 : Int32))), (.int (1 : Int32)), (.ref b50)])) _
    refine XS.iload X61.here hx rfl (hb hby d1_31) rfl ?_
    exact kt
  obtain ⟨_, _, ⟨T63, L63, k63, n63⟩, -, X63, ⟨Lc63, hQ63, l63, y63, z63⟩, st63⟩ := Jvm.LawKit.callS X61 hx (y := (⟨"com/example/bough3/bough3/model/PrincipalSlotsSlotOfPinLaw", "value", "(IIII)I"⟩ : MethodName)) hown (mvT hZ (hw _ (List.mem_of_getElem? (i := 9) rfl))) (mvT hZ (hw _ (List.mem_of_getElem? (i := 10) rfl))) (mvT hZ (hw _ (List.mem_of_getElem? (i := 3) rfl))) (mvT hZ (hw _ (List.mem_of_getElem? (i := 11) rfl))) (by decide) (backOf (W := 2) (rm3 l Z a0 hw [] (own_code o1 (1 : Int32)) p1 x1 y1 h57 n0 z58 ) hZ (hw _ (List.mem_of_getElem? (i := 11) rfl)) (hw _ (List.mem_of_getElem? (i := 3) rfl)) (by decide) (by decide)) (g := (mkF m 33 #[.val (.int (4 : Int32)), .val (.int o1), .val (.int p1), .val (.int x1), .val (.int y1), .val (.ref b50)] [(.int y1), (.int x1), (.int p1), (.int (own_code o1 (1 : Int32))), (.int (1 : Int32)), (.ref b50)])) rfl (by rw [hml]; rfl) (argsL := [(.int (own_code o1 (1 : Int32))), (.int p1), (.int x1), (.int y1)]) (rest := [(.int (1 : Int32)), (.ref b50)]) (lenOf pd_1 rfl) rfl (by show 2 * 0 + _ ≤ _; exact Nat.le_of_eq rfl) (hb hby d1_33) (fun _ _ => ⟨rfl, e61, (by decide : 1 + 0 ≤ _), (by decide : 4 + 0 ≤ _)⟩)
  dsimp only [Pt.U, Pt.locs, Pt.cells, Pt.slots] at X63 l63 y63 z63 st63 hQ63
  subst l63 y63 z63
  obtain ⟨rfl, N63q, e63⟩ := hQ63
  have N63 := Fr.app N61 N63q
  obtain ⟨T64, h64, X64, e64, W64, V64, st64⟩ := ArF.stI X63 hx hZ e63 V57 (i := 1) (by decide) (by decide) (g := (mkF m 36 #[.val (.int (4 : Int32)), .val (.int o1), .val (.int p1), .val (.int x1), .val (.int y1), .val (.ref b50)] [(.int (own_val (own_code o1 (1 : Int32)) p1 x1 y1)), (.int (1 : Int32)), (.ref b50)])) rfl rfl (hb hby d1_36)
  have z65 : n0 ≤ h64.size := Nat.le_trans z58 (Keep.of_wr W64).1
  have N66 := Fr.snoc X64 N63 g_b50
  have S67 : ∀ t, Steps p.tables e below (T64.setTop (mkF m 47 #[.val (.int (4 : Int32)), .val (.int o1), .val (.int p1), .val (.int x1), .val (.int y1), .val (.ref b50)] [(.int (2 : Int32)), (.int o1), (.int (2 : Int32)), (.ref b50)])) t → Steps p.tables e below (T64.setTop (mkF m 37 #[.val (.int (4 : Int32)), .val (.int o1), .val (.int p1), .val (.int x1), .val (.int y1), .val (.ref b50)] [])) t := by
    intro t kt
    show Steps p.tables e below (T64.setTop (mkF m 37 #[.val (.int (4 : Int32)), .val (.int o1), .val (.int p1), .val (.int x1), .val (.int y1), .val (.ref b50)] [])) _
    refine XS.iloadN X64.here hx rfl (hb hby d1_37) rfl ?_
    show Steps p.tables e below (T64.setTop (mkF m 38 #[.val (.int (4 : Int32)), .val (.int o1), .val (.int p1), .val (.int x1), .val (.int y1), .val (.ref b50)] [(.int (4 : Int32))])) _
    refine XS.iconst X64.here hx rfl (hb hby d1_38) ?_
    show Steps p.tables e below (T64.setTop (mkF m 39 #[.val (.int (4 : Int32)), .val (.int o1), .val (.int p1), .val (.int x1), .val (.int y1), .val (.ref b50)] [(.int (2 : Int32)), (.int (4 : Int32))])) _
    refine XS.icmpNo X64.here hx rfl (hb hby d1_39) rfl (tlt (by decide)).2.2.2 ?_
    show Steps p.tables e below (T64.setTop (mkF m 42 #[.val (.int (4 : Int32)), .val (.int o1), .val (.int p1), .val (.int x1), .val (.int y1), .val (.ref b50)] [])) _
    refine XS.aload X64.here hx rfl (hb hby d1_42) rfl rfl ?_
    show Steps p.tables e below (T64.setTop (mkF m 44 #[.val (.int (4 : Int32)), .val (.int o1), .val (.int p1), .val (.int x1), .val (.int y1), .val (.ref b50)] [(.ref b50)])) _
    refine XS.iconst X64.here hx rfl (hb hby d1_44) ?_
    show Steps p.tables e below (T64.setTop (mkF m 45 #[.val (.int (4 : Int32)), .val (.int o1), .val (.int p1), .val (.int x1), .val (.int y1), .val (.ref b50)] [(.int (2 : Int32)), (.ref b50)])) _
    refine XS.iloadN X64.here hx rfl (hb hby d1_45) rfl ?_
    show Steps p.tables e below (T64.setTop (mkF m 46 #[.val (.int (4 : Int32)), .val (.int o1), .val (.int p1), .val (.int x1), .val (.int y1), .val (.ref b50)] [(.int o1), (.int (2 : Int32)), (.ref b50)])) _
    refine XS.iconst X64.here hx rfl (hb hby d1_46) ?_
    exact kt
  obtain ⟨_, _, ⟨T68, L68, k68, n68⟩, -, X68, ⟨Lc68, hQ68, l68, y68, z68⟩, st68⟩ := Jvm.LawKit.callS X64 hx (y := (⟨"com/example/bough3/bough3/model/PrincipalSlotsSlotOfPinLaw", "code", "(II)I"⟩ : MethodName)) hown (mvT hZ (hw _ (List.mem_of_getElem? (i := 6) rfl))) (mvT hZ (hw _ (List.mem_of_getElem? (i := 7) rfl))) (mvT hZ (hw _ (List.mem_of_getElem? (i := 3) rfl))) (mvT hZ (hw _ (List.mem_of_getElem? (i := 8) rfl))) (by decide) (backOf (W := 2) (rm2 l Z a0 hw [] o1 (2 : Int32) h64 n0 z65 ) hZ (hw _ (List.mem_of_getElem? (i := 8) rfl)) (hw _ (List.mem_of_getElem? (i := 3) rfl)) (by decide) (by decide)) (g := (mkF m 47 #[.val (.int (4 : Int32)), .val (.int o1), .val (.int p1), .val (.int x1), .val (.int y1), .val (.ref b50)] [(.int (2 : Int32)), (.int o1), (.int (2 : Int32)), (.ref b50)])) rfl (by rw [hml]; rfl) (argsL := [(.int o1), (.int (2 : Int32))]) (rest := [(.int (2 : Int32)), (.ref b50)]) (lenOf pd_0 rfl) rfl (by show 2 * 0 + _ ≤ _; exact Nat.le_of_eq rfl) (hb hby d1_47) (fun _ _ => ⟨rfl, e64, (by decide : 1 + 0 ≤ _), (by decide : 4 + 0 ≤ _)⟩)
  dsimp only [Pt.U, Pt.locs, Pt.cells, Pt.slots] at X68 l68 y68 z68 st68 hQ68
  subst l68 y68 z68
  obtain ⟨rfl, N68q, e68⟩ := hQ68
  have N68 := Fr.app N66 N68q
  have S69 : ∀ t, Steps p.tables e below (T68.setTop (mkF m 54 #[.val (.int (4 : Int32)), .val (.int o1), .val (.int p1), .val (.int x1), .val (.int y1), .val (.ref b50)] [(.int y1), (.int x1), (.int p1), (.int (own_code o1 (2 : Int32))), (.int (2 : Int32)), (.ref b50)])) t → Steps p.tables e below (T68.setTop (mkF m 50 #[.val (.int (4 : Int32)), .val (.int o1), .val (.int p1), .val (.int x1), .val (.int y1), .val (.ref b50)] [(.int (own_code o1 (2 : Int32))), (.int (2 : Int32)), (.ref b50)])) t := by
    intro t kt
    show Steps p.tables e below (T68.setTop (mkF m 50 #[.val (.int (4 : Int32)), .val (.int o1), .val (.int p1), .val (.int x1), .val (.int y1), .val (.ref b50)] [(.int (own_code o1 (2 : Int32))), (.int (2 : Int32)), (.ref b50)])) _
    refine XS.iloadN X68.here hx rfl (hb hby d1_50) rfl ?_
    show Steps p.tables e below (T68.setTop (mkF m 51 #[.val (.int (4 : Int32)), .val (.int o1), .val (.int p1), .val (.int x1), .val (.int y1), .val (.ref b50)] [(.int p1), (.int (own_code o1 (2 : Int32))), (.int (2 : Int32)), (.ref b50)])) _
    refine XS.iloadN X68.here hx rfl (hb hby d1_51) rfl ?_
    show Steps p.tables e below (T68.setTop (mkF m 52 #[.val (.int (4 : Int32)), .val (.int o1), .val (.int p1), .val (.int x1), .val (.int y1), .val (.ref b50)] [(.int x1), (.int p1), (.int (own_code o1 (2 : Int32))), (.int (2 : Int32)), (.ref b50)])) _
    refine XS.iload X68.here hx rfl (hb hby d1_52) rfl ?_
    exact kt
  obtain ⟨_, _, ⟨T70, L70, k70, n70⟩, -, X70, ⟨Lc70, hQ70, l70, y70, z70⟩, st70⟩ := Jvm.LawKit.callS X68 hx (y := (⟨"com/example/bough3/bough3/model/PrincipalSlotsSlotOfPinLaw", "value", "(IIII)I"⟩ : MethodName)) hown (mvT hZ (hw _ (List.mem_of_getElem? (i := 9) rfl))) (mvT hZ (hw _ (List.mem_of_getElem? (i := 10) rfl))) (mvT hZ (hw _ (List.mem_of_getElem? (i := 3) rfl))) (mvT hZ (hw _ (List.mem_of_getElem? (i := 11) rfl))) (by decide) (backOf (W := 2) (rm3 l Z a0 hw [] (own_code o1 (2 : Int32)) p1 x1 y1 h64 n0 z65 ) hZ (hw _ (List.mem_of_getElem? (i := 11) rfl)) (hw _ (List.mem_of_getElem? (i := 3) rfl)) (by decide) (by decide)) (g := (mkF m 54 #[.val (.int (4 : Int32)), .val (.int o1), .val (.int p1), .val (.int x1), .val (.int y1), .val (.ref b50)] [(.int y1), (.int x1), (.int p1), (.int (own_code o1 (2 : Int32))), (.int (2 : Int32)), (.ref b50)])) rfl (by rw [hml]; rfl) (argsL := [(.int (own_code o1 (2 : Int32))), (.int p1), (.int x1), (.int y1)]) (rest := [(.int (2 : Int32)), (.ref b50)]) (lenOf pd_1 rfl) rfl (by show 2 * 0 + _ ≤ _; exact Nat.le_of_eq rfl) (hb hby d1_54) (fun _ _ => ⟨rfl, e68, (by decide : 1 + 0 ≤ _), (by decide : 4 + 0 ≤ _)⟩)
  dsimp only [Pt.U, Pt.locs, Pt.cells, Pt.slots] at X70 l70 y70 z70 st70 hQ70
  subst l70 y70 z70
  obtain ⟨rfl, N70q, e70⟩ := hQ70
  have N70 := Fr.app N68 N70q
  obtain ⟨T71, h71, X71, e71, W71, V71, st71⟩ := ArF.stI X70 hx hZ e70 V64 (i := 2) (by decide) (by decide) (g := (mkF m 57 #[.val (.int (4 : Int32)), .val (.int o1), .val (.int p1), .val (.int x1), .val (.int y1), .val (.ref b50)] [(.int (own_val (own_code o1 (2 : Int32)) p1 x1 y1)), (.int (2 : Int32)), (.ref b50)])) rfl rfl (hb hby d1_57)
  have z72 : n0 ≤ h71.size := Nat.le_trans z65 (Keep.of_wr W71).1
  have N73 := Fr.snoc X71 N70 g_b50
  have S74 : ∀ t, Steps p.tables e below (T71.setTop (mkF m 63 #[.val (.int (4 : Int32)), .val (.int o1), .val (.int p1), .val (.int x1), .val (.int y1), .val (.ref b50)] [(.int (3 : Int32)), (.int o1), (.int (3 : Int32)), (.ref b50)])) t → Steps p.tables e below (T71.setTop (mkF m 58 #[.val (.int (4 : Int32)), .val (.int o1), .val (.int p1), .val (.int x1), .val (.int y1), .val (.ref b50)] [])) t := by
    intro t kt
    show Steps p.tables e below (T71.setTop (mkF m 58 #[.val (.int (4 : Int32)), .val (.int o1), .val (.int p1), .val (.int x1), .val (.int y1), .val (.ref b50)] [])) _
    refine XS.aload X71.here hx rfl (hb hby d1_58) rfl rfl ?_
    show Steps p.tables e below (T71.setTop (mkF m 60 #[.val (.int (4 : Int32)), .val (.int o1), .val (.int p1), .val (.int x1), .val (.int y1), .val (.ref b50)] [(.ref b50)])) _
    refine XS.iconst X71.here hx rfl (hb hby d1_60) ?_
    show Steps p.tables e below (T71.setTop (mkF m 61 #[.val (.int (4 : Int32)), .val (.int o1), .val (.int p1), .val (.int x1), .val (.int y1), .val (.ref b50)] [(.int (3 : Int32)), (.ref b50)])) _
    refine XS.iloadN X71.here hx rfl (hb hby d1_61) rfl ?_
    show Steps p.tables e below (T71.setTop (mkF m 62 #[.val (.int (4 : Int32)), .val (.int o1), .val (.int p1), .val (.int x1), .val (.int y1), .val (.ref b50)] [(.int o1), (.int (3 : Int32)), (.ref b50)])) _
    refine XS.iconst X71.here hx rfl (hb hby d1_62) ?_
    exact kt
  obtain ⟨_, _, ⟨T75, L75, k75, n75⟩, -, X75, ⟨Lc75, hQ75, l75, y75, z75⟩, st75⟩ := Jvm.LawKit.callS X71 hx (y := (⟨"com/example/bough3/bough3/model/PrincipalSlotsSlotOfPinLaw", "code", "(II)I"⟩ : MethodName)) hown (mvT hZ (hw _ (List.mem_of_getElem? (i := 6) rfl))) (mvT hZ (hw _ (List.mem_of_getElem? (i := 7) rfl))) (mvT hZ (hw _ (List.mem_of_getElem? (i := 3) rfl))) (mvT hZ (hw _ (List.mem_of_getElem? (i := 8) rfl))) (by decide) (backOf (W := 2) (rm2 l Z a0 hw [] o1 (3 : Int32) h71 n0 z72 ) hZ (hw _ (List.mem_of_getElem? (i := 8) rfl)) (hw _ (List.mem_of_getElem? (i := 3) rfl)) (by decide) (by decide)) (g := (mkF m 63 #[.val (.int (4 : Int32)), .val (.int o1), .val (.int p1), .val (.int x1), .val (.int y1), .val (.ref b50)] [(.int (3 : Int32)), (.int o1), (.int (3 : Int32)), (.ref b50)])) rfl (by rw [hml]; rfl) (argsL := [(.int o1), (.int (3 : Int32))]) (rest := [(.int (3 : Int32)), (.ref b50)]) (lenOf pd_0 rfl) rfl (by show 2 * 0 + _ ≤ _; exact Nat.le_of_eq rfl) (hb hby d1_63) (fun _ _ => ⟨rfl, e71, (by decide : 1 + 0 ≤ _), (by decide : 4 + 0 ≤ _)⟩)
  dsimp only [Pt.U, Pt.locs, Pt.cells, Pt.slots] at X75 l75 y75 z75 st75 hQ75
  subst l75 y75 z75
  obtain ⟨rfl, N75q, e75⟩ := hQ75
  have N75 := Fr.app N73 N75q
  have S76 : ∀ t, Steps p.tables e below (T75.setTop (mkF m 70 #[.val (.int (4 : Int32)), .val (.int o1), .val (.int p1), .val (.int x1), .val (.int y1), .val (.ref b50)] [(.int y1), (.int x1), (.int p1), (.int (own_code o1 (3 : Int32))), (.int (3 : Int32)), (.ref b50)])) t → Steps p.tables e below (T75.setTop (mkF m 66 #[.val (.int (4 : Int32)), .val (.int o1), .val (.int p1), .val (.int x1), .val (.int y1), .val (.ref b50)] [(.int (own_code o1 (3 : Int32))), (.int (3 : Int32)), (.ref b50)])) t := by
    intro t kt
    show Steps p.tables e below (T75.setTop (mkF m 66 #[.val (.int (4 : Int32)), .val (.int o1), .val (.int p1), .val (.int x1), .val (.int y1), .val (.ref b50)] [(.int (own_code o1 (3 : Int32))), (.int (3 : Int32)), (.ref b50)])) _
    refine XS.iloadN X75.here hx rfl (hb hby d1_66) rfl ?_
    show Steps p.tables e below (T75.setTop (mkF m 67 #[.val (.int (4 : Int32)), .val (.int o1), .val (.int p1), .val (.int x1), .val (.int y1), .val (.ref b50)] [(.int p1), (.int (own_code o1 (3 : Int32))), (.int (3 : Int32)), (.ref b50)])) _
    refine XS.iloadN X75.here hx rfl (hb hby d1_67) rfl ?_
    show Steps p.tables e below (T75.setTop (mkF m 68 #[.val (.int (4 : Int32)), .val (.int o1), .val (.int p1), .val (.int x1), .val (.int y1), .val (.ref b50)] [(.int x1), (.int p1), (.int (own_code o1 (3 : Int32))), (.int (3 : Int32)), (.ref b50)])) _
    refine XS.iload X75.here hx rfl (hb hby d1_68) rfl ?_
    exact kt
  obtain ⟨_, _, ⟨T77, L77, k77, n77⟩, -, X77, ⟨Lc77, hQ77, l77, y77, z77⟩, st77⟩ := Jvm.LawKit.callS X75 hx (y := (⟨"com/example/bough3/bough3/model/PrincipalSlotsSlotOfPinLaw", "value", "(IIII)I"⟩ : MethodName)) hown (mvT hZ (hw _ (List.mem_of_getElem? (i := 9) rfl))) (mvT hZ (hw _ (List.mem_of_getElem? (i := 10) rfl))) (mvT hZ (hw _ (List.mem_of_getElem? (i := 3) rfl))) (mvT hZ (hw _ (List.mem_of_getElem? (i := 11) rfl))) (by decide) (backOf (W := 2) (rm3 l Z a0 hw [] (own_code o1 (3 : Int32)) p1 x1 y1 h71 n0 z72 ) hZ (hw _ (List.mem_of_getElem? (i := 11) rfl)) (hw _ (List.mem_of_getElem? (i := 3) rfl)) (by decide) (by decide)) (g := (mkF m 70 #[.val (.int (4 : Int32)), .val (.int o1), .val (.int p1), .val (.int x1), .val (.int y1), .val (.ref b50)] [(.int y1), (.int x1), (.int p1), (.int (own_code o1 (3 : Int32))), (.int (3 : Int32)), (.ref b50)])) rfl (by rw [hml]; rfl) (argsL := [(.int (own_code o1 (3 : Int32))), (.int p1), (.int x1), (.int y1)]) (rest := [(.int (3 : Int32)), (.ref b50)]) (lenOf pd_1 rfl) rfl (by show 2 * 0 + _ ≤ _; exact Nat.le_of_eq rfl) (hb hby d1_70) (fun _ _ => ⟨rfl, e75, (by decide : 1 + 0 ≤ _), (by decide : 4 + 0 ≤ _)⟩)
  dsimp only [Pt.U, Pt.locs, Pt.cells, Pt.slots] at X77 l77 y77 z77 st77 hQ77
  subst l77 y77 z77
  obtain ⟨rfl, N77q, e77⟩ := hQ77
  have N77 := Fr.app N75 N77q
  obtain ⟨T78, h78, X78, e78, W78, V78, st78⟩ := ArF.stI X77 hx hZ e77 V71 (i := 3) (by decide) (by decide) (g := (mkF m 73 #[.val (.int (4 : Int32)), .val (.int o1), .val (.int p1), .val (.int x1), .val (.int y1), .val (.ref b50)] [(.int (own_val (own_code o1 (3 : Int32)) p1 x1 y1)), (.int (3 : Int32)), (.ref b50)])) rfl rfl (hb hby d1_73)
  have z79 : n0 ≤ h78.size := Nat.le_trans z72 (Keep.of_wr W78).1
  have N80 := Fr.snoc X78 N77 g_b50
  have S81 : ∀ t, Steps p.tables e below (T78.setTop (mkF m 149 #[.val (.int (4 : Int32)), .val (.int o1), .val (.int p1), .val (.int x1), .val (.int y1), .val (.ref b50)] [(.ref b50)])) t → Steps p.tables e below (T78.setTop (mkF m 74 #[.val (.int (4 : Int32)), .val (.int o1), .val (.int p1), .val (.int x1), .val (.int y1), .val (.ref b50)] [])) t := by
    intro t kt
    show Steps p.tables e below (T78.setTop (mkF m 74 #[.val (.int (4 : Int32)), .val (.int o1), .val (.int p1), .val (.int x1), .val (.int y1), .val (.ref b50)] [])) _
    refine XS.iloadN X78.here hx rfl (hb hby d1_74) rfl ?_
    show Steps p.tables e below (T78.setTop (mkF m 75 #[.val (.int (4 : Int32)), .val (.int o1), .val (.int p1), .val (.int x1), .val (.int y1), .val (.ref b50)] [(.int (4 : Int32))])) _
    refine XS.iconst X78.here hx rfl (hb hby d1_75) ?_
    show Steps p.tables e below (T78.setTop (mkF m 76 #[.val (.int (4 : Int32)), .val (.int o1), .val (.int p1), .val (.int x1), .val (.int y1), .val (.ref b50)] [(.int (4 : Int32)), (.int (4 : Int32))])) _
    refine XS.icmpYes X78.here hx rfl (pc0 := 76) (pc' := 147) rfl (hb hby d1_76) rfl (flt (by decide)).2.2.2 (by decide) (by decide) ?_
    show Steps p.tables e below (T78.setTop (mkF m 147 #[.val (.int (4 : Int32)), .val (.int o1), .val (.int p1), .val (.int x1), .val (.int y1), .val (.ref b50)] [])) _
    refine XS.aload X78.here hx rfl (hb hby d1_147) rfl rfl ?_
    exact kt
  have C82 : ∀ t, Steps p.tables e below (T78.setTop (mkF m 149 #[.val (.int (4 : Int32)), .val (.int o1), .val (.int p1), .val (.int x1), .val (.int y1), .val (.ref b50)] [(.ref b50)])) t → Steps p.tables e below (s₁.setTop (mkF m 0 #[.val (.int (4 : Int32)), .val (.int o1), .val (.int p1), .val (.int x1), .val (.int y1), .unset] [])) t := (fun t k => (S49 t (st50 t (S53 t (st54 t (S55 t (st56 t (st57 t (S60 t (st61 t (S62 t (st63 t (st64 t (S67 t (st68 t (S69 t (st70 t (st71 t (S74 t (st75 t (S76 t (st77 t (st78 t (S81 t k))))))))))))))))))))))))
  obtain ⟨fs, hr, hrun, hended, hW, hsame⟩ := X78.leave (v := some (.ref b50)) (fun h => by rw [Bd.returns] at h; cases h)
  refine ⟨_, _, pre0 _ (C82 _ ?_), hrun, hended, _, _, rfl, ?_, ⟨_, rfl⟩, hW, hsame.mono (by decide) (by decide)⟩
  · exact retOut X78 hx Bd.returns rfl (Or.inr (Or.inr (Or.inr (Or.inr ⟨rfl, rfl, rfl⟩)))) (hb hby d1_149) hr
  · show Q_rm_t4 Z o1 p1 x1 y1 h0 n0 _ T78.heap _
    rw [e78]
    have V83 := V78.congr (f' := (fun q => (.int (own_tab o1 p1 x1 y1 q)))) (fun q hq => by rcases (show q = 0 ∨ q = 1 ∨ q = 2 ∨ q = 3 by omega) with rfl | rfl | rfl | rfl <;> rfl)
    exact ⟨_, rfl, N80, (((((K51.ext E50).wr W57 (Or.inr sz_b50)).wr W64 (Or.inr sz_b50)).wr W71 (Or.inr sz_b50)).wr W78 (Or.inr sz_b50)), sz_b50, V83⟩
theorem ef_rm_t8 (m : MethodId) (x0 : Int32) (x1 : Int32) (x2 : Int32) (x3 : Int32) (x4 : Int32) : entryFrame m #[(.int x0), (.int x1), (.int x2), (.int x3), (.int x4)] 6 = mkF m 0 #[.val (.int x0), .val (.int x1), .val (.int x2), .val (.int x3), .val (.int x4), .unset] [] := by first | (simp [entryFrame, mkF, argsToLocals, Value.category]; done) | rfl
def Q_rm_t8 (Z : State) (o1 : Int32) (p1 : Int32) (x1 : Int32) (y1 : Int32) (h0 : Heap) (n0 : Nat) (v : Option Value) (h : Heap) (L : List Loc) : Prop := ∃ t : Addr, v = some (.ref t) ∧ Fr n0 L ∧ Keep h0 h [] ∧ h0.size ≤ t ∧ ArF Z h t .int 8 (fun q => (.int (own_tab o1 p1 x1 y1 q)))
set_option maxRecDepth 65536 in
set_option maxHeartbeats 40000000 in
theorem rm_t8 (l : Launch) (Z : State) (a0 : Array Value) (hw : ∀ d ∈ tables_1, d.before a0 Z = true) (ws : List Jvm.Cond) (o1 : Int32) (p1 : Int32) (x1 : Int32) (y1 : Int32) (h0 : Heap) (n0 : Nat) (Z0 : n0 ≤ h0.size)  :
    MetFree l (⟨"com/example/bough3/bough3/model/PrincipalSlotsSlotOfPinLaw", "table", "(IIIII)[I"⟩ : MethodName) (head1 (Jvm.Cond.code (⟨"com/example/bough3/bough3/model/PrincipalSlotsSlotOfPinLaw", "table", "(IIIII)[I"⟩ : MethodName) method_4_code 6 (some (.array .int)) :: ws) ({ frames := 1, cells := 1, slots := 8, locals := 17 } : Room)) (fun a U => a = #[(.int (8 : Int32)), (.int o1), (.int p1), (.int x1), (.int y1)] ∧ Z.Warmed39 U.vm ∧ U.heap = h0) (fun _ _ _ _ _ => True) (fun _ U o U' => ∃ v L, o = .returned v ∧ Q_rm_t8 Z o1 p1 x1 y1 h0 n0 v U'.heap L ∧ FrameEnd U o U' L ({ frames := 1, cells := 1, slots := 8, locals := 17 } : Room).cells ({ frames := 1, cells := 1, slots := 8, locals := 17 } : Room).slots) := by
  refine MetFree.of_bodySF (plainFor_of_name pn_0) hisR ?_
  intro p e s m args below meth c s₁ Bd hml0 hP hK
  obtain ⟨rfl, hZ, hh⟩ := hP
  have hx := Bd.exec
  have hby := Bd.bytes
  have hml : c.maxLocals = 6 := hml0
  have hown : s.vm.findClass "com/example/bough3/bough3/model/PrincipalSlotsSlotOfPinLaw" = some m.cls := findClass_of_methodNamed Bd.named
  have hnm := (name_of_methodNamed Bd.named Bd.method).1
  have X0 : Stand p l e ({ frames := 1, cells := 1, slots := 8, locals := 17 } : Room) s m #[(.int (8 : Int32)), (.int o1), (.int p1), (.int x1), (.int y1)] below meth c s₁ [] 0 0 := Stand.of_body Bd
  have e0 : s₁.heap = h0 := by rw [← hh, Bd.state]; rfl
  have N0 := Fr.nil n0
  have pre0 : ∀ t, Steps p.tables e below (s₁.setTop (mkF m 0 #[.val (.int (8 : Int32)), .val (.int o1), .val (.int p1), .val (.int x1), .val (.int y1), .unset] [])) t → Steps p.tables e below (s₁.setTop (entryFrame m #[(.int (8 : Int32)), (.int o1), (.int p1), (.int x1), (.int y1)] 6)) t := fun t k => castTop (ef_rm_t8 m (8 : Int32) o1 p1 x1 y1) k
  have S84 : ∀ t, Steps p.tables e below (s₁.setTop (mkF m 1 #[.val (.int (8 : Int32)), .val (.int o1), .val (.int p1), .val (.int x1), .val (.int y1), .unset] [(.int (8 : Int32))])) t → Steps p.tables e below (s₁.setTop (mkF m 0 #[.val (.int (8 : Int32)), .val (.int o1), .val (.int p1), .val (.int x1), .val (.int y1), .unset] [])) t := by
    intro t kt
    show Steps p.tables e below (s₁.setTop (mkF m 0 #[.val (.int (8 : Int32)), .val (.int o1), .val (.int p1), .val (.int x1), .val (.int y1), .unset] [])) _
    refine XS.iloadN X0.here hx rfl (hb hby d1_0) rfl ?_
    exact kt
  obtain ⟨T85, h85, k85, X85, e85, E85, A85, st85⟩ := newP X0 hx hZ (hw _ (List.mem_of_getElem? (i := 5) rfl)) e0 (g := (mkF m 1 #[.val (.int (8 : Int32)), .val (.int o1), .val (.int p1), .val (.int x1), .val (.int y1), .unset] [(.int (8 : Int32))])) rfl (hb hby d1_1) rfl (by decide) (cap := 8) (by decide) (by decide) (by decide) (by decide)
  obtain ⟨b85, g85⟩ : ∃ z, z = h0.size := ⟨_, rfl⟩
  rw [← g85] at A85 st85
  have g_b85 : n0 ≤ b85 := Nat.le_trans Z0 (Nat.le_of_eq g85.symm)
  have K86 := (Keep.refl h0 [])
  have sz_b85 : h0.size ≤ b85 := Nat.le_trans K86.1 (Nat.le_of_eq g85.symm)
  have z87 : n0 ≤ h85.size := Nat.le_trans Z0 E85.1
  have V85 : ArF Z h85 b85 .int 8 (fun _ => (.int (0 : Int32))) := ArF.new A85 (by decide) rfl
  have S88 : ∀ t, Steps p.tables e below (T85.setTop (mkF m 10 #[.val (.int (8 : Int32)), .val (.int o1), .val (.int p1), .val (.int x1), .val (.int y1), .val (.ref b85)] [(.int (0 : Int32)), (.int o1), (.int (0 : Int32)), (.ref b85)])) t → Steps p.tables e below (T85.setTop (mkF m 3 #[.val (.int (8 : Int32)), .val (.int o1), .val (.int p1), .val (.int x1), .val (.int y1), .unset] [(.ref b85)])) t := by
    intro t kt
    show Steps p.tables e below (T85.setTop (mkF m 3 #[.val (.int (8 : Int32)), .val (.int o1), .val (.int p1), .val (.int x1), .val (.int y1), .unset] [(.ref b85)])) _
    refine XS.astore X85.here hx rfl (hb hby d1_3) rfl rfl (l' := #[.val (.int (8 : Int32)), .val (.int o1), .val (.int p1), .val (.int x1), .val (.int y1), .val (.ref b85)]) rfl ?_
    show Steps p.tables e below (T85.setTop (mkF m 5 #[.val (.int (8 : Int32)), .val (.int o1), .val (.int p1), .val (.int x1), .val (.int y1), .val (.ref b85)] [])) _
    refine XS.aload X85.here hx rfl (hb hby d1_5) rfl rfl ?_
    show Steps p.tables e below (T85.setTop (mkF m 7 #[.val (.int (8 : Int32)), .val (.int o1), .val (.int p1), .val (.int x1), .val (.int y1), .val (.ref b85)] [(.ref b85)])) _
    refine XS.iconst X85.here hx rfl (hb hby d1_7) ?_
    show Steps p.tables e below (T85.setTop (mkF m 8 #[.val (.int (8 : Int32)), .val (.int o1), .val (.int p1), .val (.int x1), .val (.int y1), .val (.ref b85)] [(.int (0 : Int32)), (.ref b85)])) _
    refine XS.iloadN X85.here hx rfl (hb hby d1_8) rfl ?_
    show Steps p.tables e below (T85.setTop (mkF m 9 #[.val (.int (8 : Int32)), .val (.int o1), .val (.int p1), .val (.int x1), .val (.int y1), .val (.ref b85)] [(.int o1), (.int (0 : Int32)), (.ref b85)])) _
    refine XS.iconst X85.here hx rfl (hb hby d1_9) ?_
    exact kt
  obtain ⟨_, _, ⟨T89, L89, k89, n89⟩, -, X89, ⟨Lc89, hQ89, l89, y89, z89⟩, st89⟩ := Jvm.LawKit.callS X85 hx (y := (⟨"com/example/bough3/bough3/model/PrincipalSlotsSlotOfPinLaw", "code", "(II)I"⟩ : MethodName)) hown (mvT hZ (hw _ (List.mem_of_getElem? (i := 6) rfl))) (mvT hZ (hw _ (List.mem_of_getElem? (i := 7) rfl))) (mvT hZ (hw _ (List.mem_of_getElem? (i := 3) rfl))) (mvT hZ (hw _ (List.mem_of_getElem? (i := 8) rfl))) (by decide) (backOf (W := 2) (rm2 l Z a0 hw [] o1 (0 : Int32) h85 n0 z87 ) hZ (hw _ (List.mem_of_getElem? (i := 8) rfl)) (hw _ (List.mem_of_getElem? (i := 3) rfl)) (by decide) (by decide)) (g := (mkF m 10 #[.val (.int (8 : Int32)), .val (.int o1), .val (.int p1), .val (.int x1), .val (.int y1), .val (.ref b85)] [(.int (0 : Int32)), (.int o1), (.int (0 : Int32)), (.ref b85)])) rfl (by rw [hml]; rfl) (argsL := [(.int o1), (.int (0 : Int32))]) (rest := [(.int (0 : Int32)), (.ref b85)]) (lenOf pd_0 rfl) rfl (by show 2 * 0 + _ ≤ _; exact Nat.le_of_eq rfl) (hb hby d1_10) (fun _ _ => ⟨rfl, e85, (by decide : 1 + 0 ≤ _), (by decide : 8 + 0 ≤ _)⟩)
  dsimp only [Pt.U, Pt.locs, Pt.cells, Pt.slots] at X89 l89 y89 z89 st89 hQ89
  subst l89 y89 z89
  obtain ⟨rfl, N89q, e89⟩ := hQ89
  have N89 := Fr.app N0 N89q
  have S90 : ∀ t, Steps p.tables e below (T89.setTop (mkF m 17 #[.val (.int (8 : Int32)), .val (.int o1), .val (.int p1), .val (.int x1), .val (.int y1), .val (.ref b85)] [(.int y1), (.int x1), (.int p1), (.int (own_code o1 (0 : Int32))), (.int (0 : Int32)), (.ref b85)])) t → Steps p.tables e below (T89.setTop (mkF m 13 #[.val (.int (8 : Int32)), .val (.int o1), .val (.int p1), .val (.int x1), .val (.int y1), .val (.ref b85)] [(.int (own_code o1 (0 : Int32))), (.int (0 : Int32)), (.ref b85)])) t := by
    intro t kt
    show Steps p.tables e below (T89.setTop (mkF m 13 #[.val (.int (8 : Int32)), .val (.int o1), .val (.int p1), .val (.int x1), .val (.int y1), .val (.ref b85)] [(.int (own_code o1 (0 : Int32))), (.int (0 : Int32)), (.ref b85)])) _
    refine XS.iloadN X89.here hx rfl (hb hby d1_13) rfl ?_
    show Steps p.tables e below (T89.setTop (mkF m 14 #[.val (.int (8 : Int32)), .val (.int o1), .val (.int p1), .val (.int x1), .val (.int y1), .val (.ref b85)] [(.int p1), (.int (own_code o1 (0 : Int32))), (.int (0 : Int32)), (.ref b85)])) _
    refine XS.iloadN X89.here hx rfl (hb hby d1_14) rfl ?_
    show Steps p.tables e below (T89.setTop (mkF m 15 #[.val (.int (8 : Int32)), .val (.int o1), .val (.int p1), .val (.int x1), .val (.int y1), .val (.ref b85)] [(.int x1), (.int p1), (.int (own_code o1 (0 : Int32))), (.int (0 : Int32)), (.ref b85)])) _
    refine XS.iload X89.here hx rfl (hb hby d1_15) rfl ?_
    exact kt
  obtain ⟨_, _, ⟨T91, L91, k91, n91⟩, -, X91, ⟨Lc91, hQ91, l91, y91, z91⟩, st91⟩ := Jvm.LawKit.callS X89 hx (y := (⟨"com/example/bough3/bough3/model/PrincipalSlotsSlotOfPinLaw", "value", "(IIII)I"⟩ : MethodName)) hown (mvT hZ (hw _ (List.mem_of_getElem? (i := 9) rfl))) (mvT hZ (hw _ (List.mem_of_getElem? (i := 10) rfl))) (mvT hZ (hw _ (List.mem_of_getElem? (i := 3) rfl))) (mvT hZ (hw _ (List.mem_of_getElem? (i := 11) rfl))) (by decide) (backOf (W := 2) (rm3 l Z a0 hw [] (own_code o1 (0 : Int32)) p1 x1 y1 h85 n0 z87 ) hZ (hw _ (List.mem_of_getElem? (i := 11) rfl)) (hw _ (List.mem_of_getElem? (i := 3) rfl)) (by decide) (by decide)) (g := (mkF m 17 #[.val (.int (8 : Int32)), .val (.int o1), .val (.int p1), .val (.int x1), .val (.int y1), .val (.ref b85)] [(.int y1), (.int x1), (.int p1), (.int (own_code o1 (0 : Int32))), (.int (0 : Int32)), (.ref b85)])) rfl (by rw [hml]; rfl) (argsL := [(.int (own_code o1 (0 : Int32))), (.int p1), (.int x1), (.int y1)]) (rest := [(.int (0 : Int32)), (.ref b85)]) (lenOf pd_1 rfl) rfl (by show 2 * 0 + _ ≤ _; exact Nat.le_of_eq rfl) (hb hby d1_17) (fun _ _ => ⟨rfl, e89, (by decide : 1 + 0 ≤ _), (by decide : 8 + 0 ≤ _)⟩)
  dsimp only [Pt.U, Pt.locs, Pt.cells, Pt.slots] at X91 l91 y91 z91 st91 hQ91
  subst l91 y91 z91
  obtain ⟨rfl, N91q, e91⟩ := hQ91
  have N91 := Fr.app N89 N91q
  obtain ⟨T92, h92, X92, e92, W92, V92, st92⟩ := ArF.stI X91 hx hZ e91 V85 (i := 0) (by decide) (by decide) (g := (mkF m 20 #[.val (.int (8 : Int32)), .val (.int o1), .val (.int p1), .val (.int x1), .val (.int y1), .val (.ref b85)] [(.int (own_val (own_code o1 (0 : Int32)) p1 x1 y1)), (.int (0 : Int32)), (.ref b85)])) rfl rfl (hb hby d1_20)
  have z93 : n0 ≤ h92.size := Nat.le_trans z87 (Keep.of_wr W92).1
  have N94 := Fr.snoc X92 N91 g_b85
  have S95 : ∀ t, Steps p.tables e below (T92.setTop (mkF m 26 #[.val (.int (8 : Int32)), .val (.int o1), .val (.int p1), .val (.int x1), .val (.int y1), .val (.ref b85)] [(.int (1 : Int32)), (.int o1), (.int (1 : Int32)), (.ref b85)])) t → Steps p.tables e below (T92.setTop (mkF m 21 #[.val (.int (8 : Int32)), .val (.int o1), .val (.int p1), .val (.int x1), .val (.int y1), .val (.ref b85)] [])) t := by
    intro t kt
    show Steps p.tables e below (T92.setTop (mkF m 21 #[.val (.int (8 : Int32)), .val (.int o1), .val (.int p1), .val (.int x1), .val (.int y1), .val (.ref b85)] [])) _
    refine XS.aload X92.here hx rfl (hb hby d1_21) rfl rfl ?_
    show Steps p.tables e below (T92.setTop (mkF m 23 #[.val (.int (8 : Int32)), .val (.int o1), .val (.int p1), .val (.int x1), .val (.int y1), .val (.ref b85)] [(.ref b85)])) _
    refine XS.iconst X92.here hx rfl (hb hby d1_23) ?_
    show Steps p.tables e below (T92.setTop (mkF m 24 #[.val (.int (8 : Int32)), .val (.int o1), .val (.int p1), .val (.int x1), .val (.int y1), .val (.ref b85)] [(.int (1 : Int32)), (.ref b85)])) _
    refine XS.iloadN X92.here hx rfl (hb hby d1_24) rfl ?_
    show Steps p.tables e below (T92.setTop (mkF m 25 #[.val (.int (8 : Int32)), .val (.int o1), .val (.int p1), .val (.int x1), .val (.int y1), .val (.ref b85)] [(.int o1), (.int (1 : Int32)), (.ref b85)])) _
    refine XS.iconst X92.here hx rfl (hb hby d1_25) ?_
    exact kt
  obtain ⟨_, _, ⟨T96, L96, k96, n96⟩, -, X96, ⟨Lc96, hQ96, l96, y96, z96⟩, st96⟩ := Jvm.LawKit.callS X92 hx (y := (⟨"com/example/bough3/bough3/model/PrincipalSlotsSlotOfPinLaw", "code", "(II)I"⟩ : MethodName)) hown (mvT hZ (hw _ (List.mem_of_getElem? (i := 6) rfl))) (mvT hZ (hw _ (List.mem_of_getElem? (i := 7) rfl))) (mvT hZ (hw _ (List.mem_of_getElem? (i := 3) rfl))) (mvT hZ (hw _ (List.mem_of_getElem? (i := 8) rfl))) (by decide) (backOf (W := 2) (rm2 l Z a0 hw [] o1 (1 : Int32) h92 n0 z93 ) hZ (hw _ (List.mem_of_getElem? (i := 8) rfl)) (hw _ (List.mem_of_getElem? (i := 3) rfl)) (by decide) (by decide)) (g := (mkF m 26 #[.val (.int (8 : Int32)), .val (.int o1), .val (.int p1), .val (.int x1), .val (.int y1), .val (.ref b85)] [(.int (1 : Int32)), (.int o1), (.int (1 : Int32)), (.ref b85)])) rfl (by rw [hml]; rfl) (argsL := [(.int o1), (.int (1 : Int32))]) (rest := [(.int (1 : Int32)), (.ref b85)]) (lenOf pd_0 rfl) rfl (by show 2 * 0 + _ ≤ _; exact Nat.le_of_eq rfl) (hb hby d1_26) (fun _ _ => ⟨rfl, e92, (by decide : 1 + 0 ≤ _), (by decide : 8 + 0 ≤ _)⟩)
  dsimp only [Pt.U, Pt.locs, Pt.cells, Pt.slots] at X96 l96 y96 z96 st96 hQ96
  subst l96 y96 z96
  obtain ⟨rfl, N96q, e96⟩ := hQ96
  have N96 := Fr.app N94 N96q
  have S97 : ∀ t, Steps p.tables e below (T96.setTop (mkF m 33 #[.val (.int (8 : Int32)), .val (.int o1), .val (.int p1), .val (.int x1), .val (.int y1), .val (.ref b85)] [(.int y1), (.int x1), (.int p1), (.int (own_code o1 (1 : Int32))), (.int (1 : Int32)), (.ref b85)])) t → Steps p.tables e below (T96.setTop (mkF m 29 #[.val (.int (8 : Int32)), .val (.int o1), .val (.int p1), .val (.int x1), .val (.int y1), .val (.ref b85)] [(.int (own_code o1 (1 : Int32))), (.int (1 : Int32)), (.ref b85)])) t := by
    intro t kt
    show Steps p.tables e below (T96.setTop (mkF m 29 #[.val (.int (8 : Int32)), .val (.int o1), .val (.int p1), .val (.int x1), .val (.int y1), .val (.ref b85)] [(.int (own_code o1 (1 : Int32))), (.int (1 : Int32)), (.ref b85)])) _
    refine XS.iloadN X96.here hx rfl (hb hby d1_29) rfl ?_
    show Steps p.tables e below (T96.setTop (mkF m 30 #[.val (.int (8 : Int32)), .val (.int o1), .val (.int p1), .val (.int x1), .val (.int y1), .val (.ref b85)] [(.int p1), (.int (own_code o1 (1 : Int32))), (.int (1 : Int32)), (.ref b85)])) _
    refine XS.iloadN X96.here hx rfl (hb hby d1_30) rfl ?_
    show Steps p.tables e below (T96.setTop (mkF m 31 #[.val (.int (8 : Int32)), .val (.int o1), .val (.int p1), .val (.int x1), .val (.int y1), .val (.ref b85)] [(.int x1), (.int p1), (.int (own_code o1 (1 : Int32))), (.int (1 : Int32)), (.ref b85)])) _
    refine XS.iload X96.here hx rfl (hb hby d1_31) rfl ?_
    exact kt
  obtain ⟨_, _, ⟨T98, L98, k98, n98⟩, -, X98, ⟨Lc98, hQ98, l98, y98, z98⟩, st98⟩ := Jvm.LawKit.callS X96 hx (y := (⟨"com/example/bough3/bough3/model/PrincipalSlotsSlotOfPinLaw", "value", "(IIII)I"⟩ : MethodName)) hown (mvT hZ (hw _ (List.mem_of_getElem? (i := 9) rfl))) (mvT hZ (hw _ (List.mem_of_getElem? (i := 10) rfl))) (mvT hZ (hw _ (List.mem_of_getElem? (i := 3) rfl))) (mvT hZ (hw _ (List.mem_of_getElem? (i := 11) rfl))) (by decide) (backOf (W := 2) (rm3 l Z a0 hw [] (own_code o1 (1 : Int32)) p1 x1 y1 h92 n0 z93 ) hZ (hw _ (List.mem_of_getElem? (i := 11) rfl)) (hw _ (List.mem_of_getElem? (i := 3) rfl)) (by decide) (by decide)) (g := (mkF m 33 #[.val (.int (8 : Int32)), .val (.int o1), .val (.int p1), .val (.int x1), .val (.int y1), .val (.ref b85)] [(.int y1), (.int x1), (.int p1), (.int (own_code o1 (1 : Int32))), (.int (1 : Int32)), (.ref b85)])) rfl (by rw [hml]; rfl) (argsL := [(.int (own_code o1 (1 : Int32))), (.int p1), (.int x1), (.int y1)]) (rest := [(.int (1 : Int32)), (.ref b85)]) (lenOf pd_1 rfl) rfl (by show 2 * 0 + _ ≤ _; exact Nat.le_of_eq rfl) (hb hby d1_33) (fun _ _ => ⟨rfl, e96, (by decide : 1 + 0 ≤ _), (by decide : 8 + 0 ≤ _)⟩)
  dsimp only [Pt.U, Pt.locs, Pt.cells, Pt.slots] at X98 l98 y98 z98 st98 hQ98
  subst l98 y98 z98
  obtain ⟨rfl, N98q, e98⟩ := hQ98
  have N98 := Fr.app N96 N98q
  obtain ⟨T99, h99, X99, e99, W99, V99, st99⟩ := ArF.stI X98 hx hZ e98 V92 (i := 1) (by decide) (by decide) (g := (mkF m 36 #[.val (.int (8 : Int32)), .val (.int o1), .val (.int p1), .val (.int x1), .val (.int y1), .val (.ref b85)] [(.int (own_val (own_code o1 (1 : Int32)) p1 x1 y1)), (.int (1 : Int32)), (.ref b85)])) rfl rfl (hb hby d1_36)
  have z100 : n0 ≤ h99.size := Nat.le_trans z93 (Keep.of_wr W99).1
  have N101 := Fr.snoc X99 N98 g_b85
  have S102 : ∀ t, Steps p.tables e below (T99.setTop (mkF m 47 #[.val (.int (8 : Int32)), .val (.int o1), .val (.int p1), .val (.int x1), .val (.int y1), .val (.ref b85)] [(.int (2 : Int32)), (.int o1), (.int (2 : Int32)), (.ref b85)])) t → Steps p.tables e below (T99.setTop (mkF m 37 #[.val (.int (8 : Int32)), .val (.int o1), .val (.int p1), .val (.int x1), .val (.int y1), .val (.ref b85)] [])) t := by
    intro t kt
    show Steps p.tables e below (T99.setTop (mkF m 37 #[.val (.int (8 : Int32)), .val (.int o1), .val (.int p1), .val (.int x1), .val (.int y1), .val (.ref b85)] [])) _
    refine XS.iloadN X99.here hx rfl (hb hby d1_37) rfl ?_
    show Steps p.tables e below (T99.setTop (mkF m 38 #[.val (.int (8 : Int32)), .val (.int o1), .val (.int p1), .val (.int x1), .val (.int y1), .val (.ref b85)] [(.int (8 : Int32))])) _
    refine XS.iconst X99.here hx rfl (hb hby d1_38) ?_
    show Steps p.tables e below (T99.setTop (mkF m 39 #[.val (.int (8 : Int32)), .val (.int o1), .val (.int p1), .val (.int x1), .val (.int y1), .val (.ref b85)] [(.int (2 : Int32)), (.int (8 : Int32))])) _
    refine XS.icmpNo X99.here hx rfl (hb hby d1_39) rfl (tlt (by decide)).2.2.2 ?_
    show Steps p.tables e below (T99.setTop (mkF m 42 #[.val (.int (8 : Int32)), .val (.int o1), .val (.int p1), .val (.int x1), .val (.int y1), .val (.ref b85)] [])) _
    refine XS.aload X99.here hx rfl (hb hby d1_42) rfl rfl ?_
    show Steps p.tables e below (T99.setTop (mkF m 44 #[.val (.int (8 : Int32)), .val (.int o1), .val (.int p1), .val (.int x1), .val (.int y1), .val (.ref b85)] [(.ref b85)])) _
    refine XS.iconst X99.here hx rfl (hb hby d1_44) ?_
    show Steps p.tables e below (T99.setTop (mkF m 45 #[.val (.int (8 : Int32)), .val (.int o1), .val (.int p1), .val (.int x1), .val (.int y1), .val (.ref b85)] [(.int (2 : Int32)), (.ref b85)])) _
    refine XS.iloadN X99.here hx rfl (hb hby d1_45) rfl ?_
    show Steps p.tables e below (T99.setTop (mkF m 46 #[.val (.int (8 : Int32)), .val (.int o1), .val (.int p1), .val (.int x1), .val (.int y1), .val (.ref b85)] [(.int o1), (.int (2 : Int32)), (.ref b85)])) _
    refine XS.iconst X99.here hx rfl (hb hby d1_46) ?_
    exact kt
  obtain ⟨_, _, ⟨T103, L103, k103, n103⟩, -, X103, ⟨Lc103, hQ103, l103, y103, z103⟩, st103⟩ := Jvm.LawKit.callS X99 hx (y := (⟨"com/example/bough3/bough3/model/PrincipalSlotsSlotOfPinLaw", "code", "(II)I"⟩ : MethodName)) hown (mvT hZ (hw _ (List.mem_of_getElem? (i := 6) rfl))) (mvT hZ (hw _ (List.mem_of_getElem? (i := 7) rfl))) (mvT hZ (hw _ (List.mem_of_getElem? (i := 3) rfl))) (mvT hZ (hw _ (List.mem_of_getElem? (i := 8) rfl))) (by decide) (backOf (W := 2) (rm2 l Z a0 hw [] o1 (2 : Int32) h99 n0 z100 ) hZ (hw _ (List.mem_of_getElem? (i := 8) rfl)) (hw _ (List.mem_of_getElem? (i := 3) rfl)) (by decide) (by decide)) (g := (mkF m 47 #[.val (.int (8 : Int32)), .val (.int o1), .val (.int p1), .val (.int x1), .val (.int y1), .val (.ref b85)] [(.int (2 : Int32)), (.int o1), (.int (2 : Int32)), (.ref b85)])) rfl (by rw [hml]; rfl) (argsL := [(.int o1), (.int (2 : Int32))]) (rest := [(.int (2 : Int32)), (.ref b85)]) (lenOf pd_0 rfl) rfl (by show 2 * 0 + _ ≤ _; exact Nat.le_of_eq rfl) (hb hby d1_47) (fun _ _ => ⟨rfl, e99, (by decide : 1 + 0 ≤ _), (by decide : 8 + 0 ≤ _)⟩)
  dsimp only [Pt.U, Pt.locs, Pt.cells, Pt.slots] at X103 l103 y103 z103 st103 hQ103
  subst l103 y103 z103
  obtain ⟨rfl, N103q, e103⟩ := hQ103
  have N103 := Fr.app N101 N103q
  have S104 : ∀ t, Steps p.tables e below (T103.setTop (mkF m 54 #[.val (.int (8 : Int32)), .val (.int o1), .val (.int p1), .val (.int x1), .val (.int y1), .val (.ref b85)] [(.int y1), (.int x1), (.int p1), (.int (own_code o1 (2 : Int32))), (.int (2 : Int32)), (.ref b85)])) t → Steps p.tables e below (T103.setTop (mkF m 50 #[.val (.int (8 : Int32)), .val (.int o1), .val (.int p1), .val (.int x1), .val (.int y1), .val (.ref b85)] [(.int (own_code o1 (2 : Int32))), (.int (2 : Int32)), (.ref b85)])) t := by
    intro t kt
    show Steps p.tables e below (T103.setTop (mkF m 50 #[.val (.int (8 : Int32)), .val (.int o1), .val (.int p1), .val (.int x1), .val (.int y1), .val (.ref b85)] [(.int (own_code o1 (2 : Int32))), (.int (2 : Int32)), (.ref b85)])) _
    refine XS.iloadN X103.here hx rfl (hb hby d1_50) rfl ?_
    show Steps p.tables e below (T103.setTop (mkF m 51 #[.val (.int (8 : Int32)), .val (.int o1), .val (.int p1), .val (.int x1), .val (.int y1), .val (.ref b85)] [(.int p1), (.int (own_code o1 (2 : Int32))), (.int (2 : Int32)), (.ref b85)])) _
    refine XS.iloadN X103.here hx rfl (hb hby d1_51) rfl ?_
    show Steps p.tables e below (T103.setTop (mkF m 52 #[.val (.int (8 : Int32)), .val (.int o1), .val (.int p1), .val (.int x1), .val (.int y1), .val (.ref b85)] [(.int x1), (.int p1), (.int (own_code o1 (2 : Int32))), (.int (2 : Int32)), (.ref b85)])) _
    refine XS.iload X103.here hx rfl (hb hby d1_52) rfl ?_
    exact kt
  obtain ⟨_, _, ⟨T105, L105, k105, n105⟩, -, X105, ⟨Lc105, hQ105, l105, y105, z105⟩, st105⟩ := Jvm.LawKit.callS X103 hx (y := (⟨"com/example/bough3/bough3/model/PrincipalSlotsSlotOfPinLaw", "value", "(IIII)I"⟩ : MethodName)) hown (mvT hZ (hw _ (List.mem_of_getElem? (i := 9) rfl))) (mvT hZ (hw _ (List.mem_of_getElem? (i := 10) rfl))) (mvT hZ (hw _ (List.mem_of_getElem? (i := 3) rfl))) (mvT hZ (hw _ (List.mem_of_getElem? (i := 11) rfl))) (by decide) (backOf (W := 2) (rm3 l Z a0 hw [] (own_code o1 (2 : Int32)) p1 x1 y1 h99 n0 z100 ) hZ (hw _ (List.mem_of_getElem? (i := 11) rfl)) (hw _ (List.mem_of_getElem? (i := 3) rfl)) (by decide) (by decide)) (g := (mkF m 54 #[.val (.int (8 : Int32)), .val (.int o1), .val (.int p1), .val (.int x1), .val (.int y1), .val (.ref b85)] [(.int y1), (.int x1), (.int p1), (.int (own_code o1 (2 : Int32))), (.int (2 : Int32)), (.ref b85)])) rfl (by rw [hml]; rfl) (argsL := [(.int (own_code o1 (2 : Int32))), (.int p1), (.int x1), (.int y1)]) (rest := [(.int (2 : Int32)), (.ref b85)]) (lenOf pd_1 rfl) rfl (by show 2 * 0 + _ ≤ _; exact Nat.le_of_eq rfl) (hb hby d1_54) (fun _ _ => ⟨rfl, e103, (by decide : 1 + 0 ≤ _), (by decide : 8 + 0 ≤ _)⟩)
  dsimp only [Pt.U, Pt.locs, Pt.cells, Pt.slots] at X105 l105 y105 z105 st105 hQ105
  subst l105 y105 z105
  obtain ⟨rfl, N105q, e105⟩ := hQ105
  have N105 := Fr.app N103 N105q
  obtain ⟨T106, h106, X106, e106, W106, V106, st106⟩ := ArF.stI X105 hx hZ e105 V99 (i := 2) (by decide) (by decide) (g := (mkF m 57 #[.val (.int (8 : Int32)), .val (.int o1), .val (.int p1), .val (.int x1), .val (.int y1), .val (.ref b85)] [(.int (own_val (own_code o1 (2 : Int32)) p1 x1 y1)), (.int (2 : Int32)), (.ref b85)])) rfl rfl (hb hby d1_57)
  have z107 : n0 ≤ h106.size := Nat.le_trans z100 (Keep.of_wr W106).1
  have N108 := Fr.snoc X106 N105 g_b85
  have S109 : ∀ t, Steps p.tables e below (T106.setTop (mkF m 63 #[.val (.int (8 : Int32)), .val (.int o1), .val (.int p1), .val (.int x1), .val (.int y1), .val (.ref b85)] [(.int (3 : Int32)), (.int o1), (.int (3 : Int32)), (.ref b85)])) t → Steps p.tables e below (T106.setTop (mkF m 58 #[.val (.int (8 : Int32)), .val (.int o1), .val (.int p1), .val (.int x1), .val (.int y1), .val (.ref b85)] [])) t := by
    intro t kt
    show Steps p.tables e below (T106.setTop (mkF m 58 #[.val (.int (8 : Int32)), .val (.int o1), .val (.int p1), .val (.int x1), .val (.int y1), .val (.ref b85)] [])) _
    refine XS.aload X106.here hx rfl (hb hby d1_58) rfl rfl ?_
    show Steps p.tables e below (T106.setTop (mkF m 60 #[.val (.int (8 : Int32)), .val (.int o1), .val (.int p1), .val (.int x1), .val (.int y1), .val (.ref b85)] [(.ref b85)])) _
    refine XS.iconst X106.here hx rfl (hb hby d1_60) ?_
    show Steps p.tables e below (T106.setTop (mkF m 61 #[.val (.int (8 : Int32)), .val (.int o1), .val (.int p1), .val (.int x1), .val (.int y1), .val (.ref b85)] [(.int (3 : Int32)), (.ref b85)])) _
    refine XS.iloadN X106.here hx rfl (hb hby d1_61) rfl ?_
    show Steps p.tables e below (T106.setTop (mkF m 62 #[.val (.int (8 : Int32)), .val (.int o1), .val (.int p1), .val (.int x1), .val (.int y1), .val (.ref b85)] [(.int o1), (.int (3 : Int32)), (.ref b85)])) _
    refine XS.iconst X106.here hx rfl (hb hby d1_62) ?_
    exact kt
  obtain ⟨_, _, ⟨T110, L110, k110, n110⟩, -, X110, ⟨Lc110, hQ110, l110, y110, z110⟩, st110⟩ := Jvm.LawKit.callS X106 hx (y := (⟨"com/example/bough3/bough3/model/PrincipalSlotsSlotOfPinLaw", "code", "(II)I"⟩ : MethodName)) hown (mvT hZ (hw _ (List.mem_of_getElem? (i := 6) rfl))) (mvT hZ (hw _ (List.mem_of_getElem? (i := 7) rfl))) (mvT hZ (hw _ (List.mem_of_getElem? (i := 3) rfl))) (mvT hZ (hw _ (List.mem_of_getElem? (i := 8) rfl))) (by decide) (backOf (W := 2) (rm2 l Z a0 hw [] o1 (3 : Int32) h106 n0 z107 ) hZ (hw _ (List.mem_of_getElem? (i := 8) rfl)) (hw _ (List.mem_of_getElem? (i := 3) rfl)) (by decide) (by decide)) (g := (mkF m 63 #[.val (.int (8 : Int32)), .val (.int o1), .val (.int p1), .val (.int x1), .val (.int y1), .val (.ref b85)] [(.int (3 : Int32)), (.int o1), (.int (3 : Int32)), (.ref b85)])) rfl (by rw [hml]; rfl) (argsL := [(.int o1), (.int (3 : Int32))]) (rest := [(.int (3 : Int32)), (.ref b85)]) (lenOf pd_0 rfl) rfl (by show 2 * 0 + _ ≤ _; exact Nat.le_of_eq rfl) (hb hby d1_63) (fun _ _ => ⟨rfl, e106, (by decide : 1 + 0 ≤ _), (by decide : 8 + 0 ≤ _)⟩)
  dsimp only [Pt.U, Pt.locs, Pt.cells, Pt.slots] at X110 l110 y110 z110 st110 hQ110
  subst l110 y110 z110
  obtain ⟨rfl, N110q, e110⟩ := hQ110
  have N110 := Fr.app N108 N110q
  have S111 : ∀ t, Steps p.tables e below (T110.setTop (mkF m 70 #[.val (.int (8 : Int32)), .val (.int o1), .val (.int p1), .val (.int x1), .val (.int y1), .val (.ref b85)] [(.int y1), (.int x1), (.int p1), (.int (own_code o1 (3 : Int32))), (.int (3 : Int32)), (.ref b85)])) t → Steps p.tables e below (T110.setTop (mkF m 66 #[.val (.int (8 : Int32)), .val (.int o1), .val (.int p1), .val (.int x1), .val (.int y1), .val (.ref b85)] [(.int (own_code o1 (3 : Int32))), (.int (3 : Int32)), (.ref b85)])) t := by
    intro t kt
    show Steps p.tables e below (T110.setTop (mkF m 66 #[.val (.int (8 : Int32)), .val (.int o1), .val (.int p1), .val (.int x1), .val (.int y1), .val (.ref b85)] [(.int (own_code o1 (3 : Int32))), (.int (3 : Int32)), (.ref b85)])) _
    refine XS.iloadN X110.here hx rfl (hb hby d1_66) rfl ?_
    show Steps p.tables e below (T110.setTop (mkF m 67 #[.val (.int (8 : Int32)), .val (.int o1), .val (.int p1), .val (.int x1), .val (.int y1), .val (.ref b85)] [(.int p1), (.int (own_code o1 (3 : Int32))), (.int (3 : Int32)), (.ref b85)])) _
    refine XS.iloadN X110.here hx rfl (hb hby d1_67) rfl ?_
    show Steps p.tables e below (T110.setTop (mkF m 68 #[.val (.int (8 : Int32)), .val (.int o1), .val (.int p1), .val (.int x1), .val (.int y1), .val (.ref b85)] [(.int x1), (.int p1), (.int (own_code o1 (3 : Int32))), (.int (3 : Int32)), (.ref b85)])) _
    refine XS.iload X110.here hx rfl (hb hby d1_68) rfl ?_
    exact kt
  obtain ⟨_, _, ⟨T112, L112, k112, n112⟩, -, X112, ⟨Lc112, hQ112, l112, y112, z112⟩, st112⟩ := Jvm.LawKit.callS X110 hx (y := (⟨"com/example/bough3/bough3/model/PrincipalSlotsSlotOfPinLaw", "value", "(IIII)I"⟩ : MethodName)) hown (mvT hZ (hw _ (List.mem_of_getElem? (i := 9) rfl))) (mvT hZ (hw _ (List.mem_of_getElem? (i := 10) rfl))) (mvT hZ (hw _ (List.mem_of_getElem? (i := 3) rfl))) (mvT hZ (hw _ (List.mem_of_getElem? (i := 11) rfl))) (by decide) (backOf (W := 2) (rm3 l Z a0 hw [] (own_code o1 (3 : Int32)) p1 x1 y1 h106 n0 z107 ) hZ (hw _ (List.mem_of_getElem? (i := 11) rfl)) (hw _ (List.mem_of_getElem? (i := 3) rfl)) (by decide) (by decide)) (g := (mkF m 70 #[.val (.int (8 : Int32)), .val (.int o1), .val (.int p1), .val (.int x1), .val (.int y1), .val (.ref b85)] [(.int y1), (.int x1), (.int p1), (.int (own_code o1 (3 : Int32))), (.int (3 : Int32)), (.ref b85)])) rfl (by rw [hml]; rfl) (argsL := [(.int (own_code o1 (3 : Int32))), (.int p1), (.int x1), (.int y1)]) (rest := [(.int (3 : Int32)), (.ref b85)]) (lenOf pd_1 rfl) rfl (by show 2 * 0 + _ ≤ _; exact Nat.le_of_eq rfl) (hb hby d1_70) (fun _ _ => ⟨rfl, e110, (by decide : 1 + 0 ≤ _), (by decide : 8 + 0 ≤ _)⟩)
  dsimp only [Pt.U, Pt.locs, Pt.cells, Pt.slots] at X112 l112 y112 z112 st112 hQ112
  subst l112 y112 z112
  obtain ⟨rfl, N112q, e112⟩ := hQ112
  have N112 := Fr.app N110 N112q
  obtain ⟨T113, h113, X113, e113, W113, V113, st113⟩ := ArF.stI X112 hx hZ e112 V106 (i := 3) (by decide) (by decide) (g := (mkF m 73 #[.val (.int (8 : Int32)), .val (.int o1), .val (.int p1), .val (.int x1), .val (.int y1), .val (.ref b85)] [(.int (own_val (own_code o1 (3 : Int32)) p1 x1 y1)), (.int (3 : Int32)), (.ref b85)])) rfl rfl (hb hby d1_73)
  have z114 : n0 ≤ h113.size := Nat.le_trans z107 (Keep.of_wr W113).1
  have N115 := Fr.snoc X113 N112 g_b85
  have S116 : ∀ t, Steps p.tables e below (T113.setTop (mkF m 84 #[.val (.int (8 : Int32)), .val (.int o1), .val (.int p1), .val (.int x1), .val (.int y1), .val (.ref b85)] [(.int (4 : Int32)), (.int o1), (.int (4 : Int32)), (.ref b85)])) t → Steps p.tables e below (T113.setTop (mkF m 74 #[.val (.int (8 : Int32)), .val (.int o1), .val (.int p1), .val (.int x1), .val (.int y1), .val (.ref b85)] [])) t := by
    intro t kt
    show Steps p.tables e below (T113.setTop (mkF m 74 #[.val (.int (8 : Int32)), .val (.int o1), .val (.int p1), .val (.int x1), .val (.int y1), .val (.ref b85)] [])) _
    refine XS.iloadN X113.here hx rfl (hb hby d1_74) rfl ?_
    show Steps p.tables e below (T113.setTop (mkF m 75 #[.val (.int (8 : Int32)), .val (.int o1), .val (.int p1), .val (.int x1), .val (.int y1), .val (.ref b85)] [(.int (8 : Int32))])) _
    refine XS.iconst X113.here hx rfl (hb hby d1_75) ?_
    show Steps p.tables e below (T113.setTop (mkF m 76 #[.val (.int (8 : Int32)), .val (.int o1), .val (.int p1), .val (.int x1), .val (.int y1), .val (.ref b85)] [(.int (4 : Int32)), (.int (8 : Int32))])) _
    refine XS.icmpNo X113.here hx rfl (hb hby d1_76) rfl (tlt (by decide)).2.2.2 ?_
    show Steps p.tables e below (T113.setTop (mkF m 79 #[.val (.int (8 : Int32)), .val (.int o1), .val (.int p1), .val (.int x1), .val (.int y1), .val (.ref b85)] [])) _
    refine XS.aload X113.here hx rfl (hb hby d1_79) rfl rfl ?_
    show Steps p.tables e below (T113.setTop (mkF m 81 #[.val (.int (8 : Int32)), .val (.int o1), .val (.int p1), .val (.int x1), .val (.int y1), .val (.ref b85)] [(.ref b85)])) _
    refine XS.iconst X113.here hx rfl (hb hby d1_81) ?_
    show Steps p.tables e below (T113.setTop (mkF m 82 #[.val (.int (8 : Int32)), .val (.int o1), .val (.int p1), .val (.int x1), .val (.int y1), .val (.ref b85)] [(.int (4 : Int32)), (.ref b85)])) _
    refine XS.iloadN X113.here hx rfl (hb hby d1_82) rfl ?_
    show Steps p.tables e below (T113.setTop (mkF m 83 #[.val (.int (8 : Int32)), .val (.int o1), .val (.int p1), .val (.int x1), .val (.int y1), .val (.ref b85)] [(.int o1), (.int (4 : Int32)), (.ref b85)])) _
    refine XS.iconst X113.here hx rfl (hb hby d1_83) ?_
    exact kt
  obtain ⟨_, _, ⟨T117, L117, k117, n117⟩, -, X117, ⟨Lc117, hQ117, l117, y117, z117⟩, st117⟩ := Jvm.LawKit.callS X113 hx (y := (⟨"com/example/bough3/bough3/model/PrincipalSlotsSlotOfPinLaw", "code", "(II)I"⟩ : MethodName)) hown (mvT hZ (hw _ (List.mem_of_getElem? (i := 6) rfl))) (mvT hZ (hw _ (List.mem_of_getElem? (i := 7) rfl))) (mvT hZ (hw _ (List.mem_of_getElem? (i := 3) rfl))) (mvT hZ (hw _ (List.mem_of_getElem? (i := 8) rfl))) (by decide) (backOf (W := 2) (rm2 l Z a0 hw [] o1 (4 : Int32) h113 n0 z114 ) hZ (hw _ (List.mem_of_getElem? (i := 8) rfl)) (hw _ (List.mem_of_getElem? (i := 3) rfl)) (by decide) (by decide)) (g := (mkF m 84 #[.val (.int (8 : Int32)), .val (.int o1), .val (.int p1), .val (.int x1), .val (.int y1), .val (.ref b85)] [(.int (4 : Int32)), (.int o1), (.int (4 : Int32)), (.ref b85)])) rfl (by rw [hml]; rfl) (argsL := [(.int o1), (.int (4 : Int32))]) (rest := [(.int (4 : Int32)), (.ref b85)]) (lenOf pd_0 rfl) rfl (by show 2 * 0 + _ ≤ _; exact Nat.le_of_eq rfl) (hb hby d1_84) (fun _ _ => ⟨rfl, e113, (by decide : 1 + 0 ≤ _), (by decide : 8 + 0 ≤ _)⟩)
  dsimp only [Pt.U, Pt.locs, Pt.cells, Pt.slots] at X117 l117 y117 z117 st117 hQ117
  subst l117 y117 z117
  obtain ⟨rfl, N117q, e117⟩ := hQ117
  have N117 := Fr.app N115 N117q
  have S118 : ∀ t, Steps p.tables e below (T117.setTop (mkF m 91 #[.val (.int (8 : Int32)), .val (.int o1), .val (.int p1), .val (.int x1), .val (.int y1), .val (.ref b85)] [(.int y1), (.int x1), (.int p1), (.int (own_code o1 (4 : Int32))), (.int (4 : Int32)), (.ref b85)])) t → Steps p.tables e below (T117.setTop (mkF m 87 #[.val (.int (8 : Int32)), .val (.int o1), .val (.int p1), .val (.int x1), .val (.int y1), .val (.ref b85)] [(.int (own_code o1 (4 : Int32))), (.int (4 : Int32)), (.ref b85)])) t := by
    intro t kt
    show Steps p.tables e below (T117.setTop (mkF m 87 #[.val (.int (8 : Int32)), .val (.int o1), .val (.int p1), .val (.int x1), .val (.int y1), .val (.ref b85)] [(.int (own_code o1 (4 : Int32))), (.int (4 : Int32)), (.ref b85)])) _
    refine XS.iloadN X117.here hx rfl (hb hby d1_87) rfl ?_
    show Steps p.tables e below (T117.setTop (mkF m 88 #[.val (.int (8 : Int32)), .val (.int o1), .val (.int p1), .val (.int x1), .val (.int y1), .val (.ref b85)] [(.int p1), (.int (own_code o1 (4 : Int32))), (.int (4 : Int32)), (.ref b85)])) _
    refine XS.iloadN X117.here hx rfl (hb hby d1_88) rfl ?_
    show Steps p.tables e below (T117.setTop (mkF m 89 #[.val (.int (8 : Int32)), .val (.int o1), .val (.int p1), .val (.int x1), .val (.int y1), .val (.ref b85)] [(.int x1), (.int p1), (.int (own_code o1 (4 : Int32))), (.int (4 : Int32)), (.ref b85)])) _
    refine XS.iload X117.here hx rfl (hb hby d1_89) rfl ?_
    exact kt
  obtain ⟨_, _, ⟨T119, L119, k119, n119⟩, -, X119, ⟨Lc119, hQ119, l119, y119, z119⟩, st119⟩ := Jvm.LawKit.callS X117 hx (y := (⟨"com/example/bough3/bough3/model/PrincipalSlotsSlotOfPinLaw", "value", "(IIII)I"⟩ : MethodName)) hown (mvT hZ (hw _ (List.mem_of_getElem? (i := 9) rfl))) (mvT hZ (hw _ (List.mem_of_getElem? (i := 10) rfl))) (mvT hZ (hw _ (List.mem_of_getElem? (i := 3) rfl))) (mvT hZ (hw _ (List.mem_of_getElem? (i := 11) rfl))) (by decide) (backOf (W := 2) (rm3 l Z a0 hw [] (own_code o1 (4 : Int32)) p1 x1 y1 h113 n0 z114 ) hZ (hw _ (List.mem_of_getElem? (i := 11) rfl)) (hw _ (List.mem_of_getElem? (i := 3) rfl)) (by decide) (by decide)) (g := (mkF m 91 #[.val (.int (8 : Int32)), .val (.int o1), .val (.int p1), .val (.int x1), .val (.int y1), .val (.ref b85)] [(.int y1), (.int x1), (.int p1), (.int (own_code o1 (4 : Int32))), (.int (4 : Int32)), (.ref b85)])) rfl (by rw [hml]; rfl) (argsL := [(.int (own_code o1 (4 : Int32))), (.int p1), (.int x1), (.int y1)]) (rest := [(.int (4 : Int32)), (.ref b85)]) (lenOf pd_1 rfl) rfl (by show 2 * 0 + _ ≤ _; exact Nat.le_of_eq rfl) (hb hby d1_91) (fun _ _ => ⟨rfl, e117, (by decide : 1 + 0 ≤ _), (by decide : 8 + 0 ≤ _)⟩)
  dsimp only [Pt.U, Pt.locs, Pt.cells, Pt.slots] at X119 l119 y119 z119 st119 hQ119
  subst l119 y119 z119
  obtain ⟨rfl, N119q, e119⟩ := hQ119
  have N119 := Fr.app N117 N119q
  obtain ⟨T120, h120, X120, e120, W120, V120, st120⟩ := ArF.stI X119 hx hZ e119 V113 (i := 4) (by decide) (by decide) (g := (mkF m 94 #[.val (.int (8 : Int32)), .val (.int o1), .val (.int p1), .val (.int x1), .val (.int y1), .val (.ref b85)] [(.int (own_val (own_code o1 (4 : Int32)) p1 x1 y1)), (.int (4 : Int32)), (.ref b85)])) rfl rfl (hb hby d1_94)
  have z121 : n0 ≤ h120.size := Nat.le_trans z114 (Keep.of_wr W120).1
  have N122 := Fr.snoc X120 N119 g_b85
  have S123 : ∀ t, Steps p.tables e below (T120.setTop (mkF m 100 #[.val (.int (8 : Int32)), .val (.int o1), .val (.int p1), .val (.int x1), .val (.int y1), .val (.ref b85)] [(.int (5 : Int32)), (.int o1), (.int (5 : Int32)), (.ref b85)])) t → Steps p.tables e below (T120.setTop (mkF m 95 #[.val (.int (8 : Int32)), .val (.int o1), .val (.int p1), .val (.int x1), .val (.int y1), .val (.ref b85)] [])) t := by
    intro t kt
    show Steps p.tables e below (T120.setTop (mkF m 95 #[.val (.int (8 : Int32)), .val (.int o1), .val (.int p1), .val (.int x1), .val (.int y1), .val (.ref b85)] [])) _
    refine XS.aload X120.here hx rfl (hb hby d1_95) rfl rfl ?_
    show Steps p.tables e below (T120.setTop (mkF m 97 #[.val (.int (8 : Int32)), .val (.int o1), .val (.int p1), .val (.int x1), .val (.int y1), .val (.ref b85)] [(.ref b85)])) _
    refine XS.iconst X120.here hx rfl (hb hby d1_97) ?_
    show Steps p.tables e below (T120.setTop (mkF m 98 #[.val (.int (8 : Int32)), .val (.int o1), .val (.int p1), .val (.int x1), .val (.int y1), .val (.ref b85)] [(.int (5 : Int32)), (.ref b85)])) _
    refine XS.iloadN X120.here hx rfl (hb hby d1_98) rfl ?_
    show Steps p.tables e below (T120.setTop (mkF m 99 #[.val (.int (8 : Int32)), .val (.int o1), .val (.int p1), .val (.int x1), .val (.int y1), .val (.ref b85)] [(.int o1), (.int (5 : Int32)), (.ref b85)])) _
    refine XS.iconst X120.here hx rfl (hb hby d1_99) ?_
    exact kt
  obtain ⟨_, _, ⟨T124, L124, k124, n124⟩, -, X124, ⟨Lc124, hQ124, l124, y124, z124⟩, st124⟩ := Jvm.LawKit.callS X120 hx (y := (⟨"com/example/bough3/bough3/model/PrincipalSlotsSlotOfPinLaw", "code", "(II)I"⟩ : MethodName)) hown (mvT hZ (hw _ (List.mem_of_getElem? (i := 6) rfl))) (mvT hZ (hw _ (List.mem_of_getElem? (i := 7) rfl))) (mvT hZ (hw _ (List.mem_of_getElem? (i := 3) rfl))) (mvT hZ (hw _ (List.mem_of_getElem? (i := 8) rfl))) (by decide) (backOf (W := 2) (rm2 l Z a0 hw [] o1 (5 : Int32) h120 n0 z121 ) hZ (hw _ (List.mem_of_getElem? (i := 8) rfl)) (hw _ (List.mem_of_getElem? (i := 3) rfl)) (by decide) (by decide)) (g := (mkF m 100 #[.val (.int (8 : Int32)), .val (.int o1), .val (.int p1), .val (.int x1), .val (.int y1), .val (.ref b85)] [(.int (5 : Int32)), (.int o1), (.int (5 : Int32)), (.ref b85)])) rfl (by rw [hml]; rfl) (argsL := [(.int o1), (.int (5 : Int32))]) (rest := [(.int (5 : Int32)), (.ref b85)]) (lenOf pd_0 rfl) rfl (by show 2 * 0 + _ ≤ _; exact Nat.le_of_eq rfl) (hb hby d1_100) (fun _ _ => ⟨rfl, e120, (by decide : 1 + 0 ≤ _), (by decide : 8 + 0 ≤ _)⟩)
  dsimp only [Pt.U, Pt.locs, Pt.cells, Pt.slots] at X124 l124 y124 z124 st124 hQ124
  subst l124 y124 z124
  obtain ⟨rfl, N124q, e124⟩ := hQ124
  have N124 := Fr.app N122 N124q
  have S125 : ∀ t, Steps p.tables e below (T124.setTop (mkF m 107 #[.val (.int (8 : Int32)), .val (.int o1), .val (.int p1), .val (.int x1), .val (.int y1), .val (.ref b85)] [(.int y1), (.int x1), (.int p1), (.int (own_code o1 (5 : Int32))), (.int (5 : Int32)), (.ref b85)])) t → Steps p.tables e below (T124.setTop (mkF m 103 #[.val (.int (8 : Int32)), .val (.int o1), .val (.int p1), .val (.int x1), .val (.int y1), .val (.ref b85)] [(.int (own_code o1 (5 : Int32))), (.int (5 : Int32)), (.ref b85)])) t := by
    intro t kt
    show Steps p.tables e below (T124.setTop (mkF m 103 #[.val (.int (8 : Int32)), .val (.int o1), .val (.int p1), .val (.int x1), .val (.int y1), .val (.ref b85)] [(.int (own_code o1 (5 : Int32))), (.int (5 : Int32)), (.ref b85)])) _
    refine XS.iloadN X124.here hx rfl (hb hby d1_103) rfl ?_
    show Steps p.tables e below (T124.setTop (mkF m 104 #[.val (.int (8 : Int32)), .val (.int o1), .val (.int p1), .val (.int x1), .val (.int y1), .val (.ref b85)] [(.int p1), (.int (own_code o1 (5 : Int32))), (.int (5 : Int32)), (.ref b85)])) _
    refine XS.iloadN X124.here hx rfl (hb hby d1_104) rfl ?_
    show Steps p.tables e below (T124.setTop (mkF m 105 #[.val (.int (8 : Int32)), .val (.int o1), .val (.int p1), .val (.int x1), .val (.int y1), .val (.ref b85)] [(.int x1), (.int p1), (.int (own_code o1 (5 : Int32))), (.int (5 : Int32)), (.ref b85)])) _
    refine XS.iload X124.here hx rfl (hb hby d1_105) rfl ?_
    exact kt
  obtain ⟨_, _, ⟨T126, L126, k126, n126⟩, -, X126, ⟨Lc126, hQ126, l126, y126, z126⟩, st126⟩ := Jvm.LawKit.callS X124 hx (y := (⟨"com/example/bough3/bough3/model/PrincipalSlotsSlotOfPinLaw", "value", "(IIII)I"⟩ : MethodName)) hown (mvT hZ (hw _ (List.mem_of_getElem? (i := 9) rfl))) (mvT hZ (hw _ (List.mem_of_getElem? (i := 10) rfl))) (mvT hZ (hw _ (List.mem_of_getElem? (i := 3) rfl))) (mvT hZ (hw _ (List.mem_of_getElem? (i := 11) rfl))) (by decide) (backOf (W := 2) (rm3 l Z a0 hw [] (own_code o1 (5 : Int32)) p1 x1 y1 h120 n0 z121 ) hZ (hw _ (List.mem_of_getElem? (i := 11) rfl)) (hw _ (List.mem_of_getElem? (i := 3) rfl)) (by decide) (by decide)) (g := (mkF m 107 #[.val (.int (8 : Int32)), .val (.int o1), .val (.int p1), .val (.int x1), .val (.int y1), .val (.ref b85)] [(.int y1), (.int x1), (.int p1), (.int (own_code o1 (5 : Int32))), (.int (5 : Int32)), (.ref b85)])) rfl (by rw [hml]; rfl) (argsL := [(.int (own_code o1 (5 : Int32))), (.int p1), (.int x1), (.int y1)]) (rest := [(.int (5 : Int32)), (.ref b85)]) (lenOf pd_1 rfl) rfl (by show 2 * 0 + _ ≤ _; exact Nat.le_of_eq rfl) (hb hby d1_107) (fun _ _ => ⟨rfl, e124, (by decide : 1 + 0 ≤ _), (by decide : 8 + 0 ≤ _)⟩)
  dsimp only [Pt.U, Pt.locs, Pt.cells, Pt.slots] at X126 l126 y126 z126 st126 hQ126
  subst l126 y126 z126
  obtain ⟨rfl, N126q, e126⟩ := hQ126
  have N126 := Fr.app N124 N126q
  obtain ⟨T127, h127, X127, e127, W127, V127, st127⟩ := ArF.stI X126 hx hZ e126 V120 (i := 5) (by decide) (by decide) (g := (mkF m 110 #[.val (.int (8 : Int32)), .val (.int o1), .val (.int p1), .val (.int x1), .val (.int y1), .val (.ref b85)] [(.int (own_val (own_code o1 (5 : Int32)) p1 x1 y1)), (.int (5 : Int32)), (.ref b85)])) rfl rfl (hb hby d1_110)
  have z128 : n0 ≤ h127.size := Nat.le_trans z121 (Keep.of_wr W127).1
  have N129 := Fr.snoc X127 N126 g_b85
  have S130 : ∀ t, Steps p.tables e below (T127.setTop (mkF m 118 #[.val (.int (8 : Int32)), .val (.int o1), .val (.int p1), .val (.int x1), .val (.int y1), .val (.ref b85)] [(.int (6 : Int32)), (.int o1), (.int (6 : Int32)), (.ref b85)])) t → Steps p.tables e below (T127.setTop (mkF m 111 #[.val (.int (8 : Int32)), .val (.int o1), .val (.int p1), .val (.int x1), .val (.int y1), .val (.ref b85)] [])) t := by
    intro t kt
    show Steps p.tables e below (T127.setTop (mkF m 111 #[.val (.int (8 : Int32)), .val (.int o1), .val (.int p1), .val (.int x1), .val (.int y1), .val (.ref b85)] [])) _
    refine XS.aload X127.here hx rfl (hb hby d1_111) rfl rfl ?_
    show Steps p.tables e below (T127.setTop (mkF m 113 #[.val (.int (8 : Int32)), .val (.int o1), .val (.int p1), .val (.int x1), .val (.int y1), .val (.ref b85)] [(.ref b85)])) _
    refine XS.bipush X127.here hx rfl (hb hby d1_113) ?_
    show Steps p.tables e below (T127.setTop (mkF m 115 #[.val (.int (8 : Int32)), .val (.int o1), .val (.int p1), .val (.int x1), .val (.int y1), .val (.ref b85)] [(.int (6 : Int32)), (.ref b85)])) _
    refine XS.iloadN X127.here hx rfl (hb hby d1_115) rfl ?_
    show Steps p.tables e below (T127.setTop (mkF m 116 #[.val (.int (8 : Int32)), .val (.int o1), .val (.int p1), .val (.int x1), .val (.int y1), .val (.ref b85)] [(.int o1), (.int (6 : Int32)), (.ref b85)])) _
    refine XS.bipush X127.here hx rfl (hb hby d1_116) ?_
    exact kt
  obtain ⟨_, _, ⟨T131, L131, k131, n131⟩, -, X131, ⟨Lc131, hQ131, l131, y131, z131⟩, st131⟩ := Jvm.LawKit.callS X127 hx (y := (⟨"com/example/bough3/bough3/model/PrincipalSlotsSlotOfPinLaw", "code", "(II)I"⟩ : MethodName)) hown (mvT hZ (hw _ (List.mem_of_getElem? (i := 6) rfl))) (mvT hZ (hw _ (List.mem_of_getElem? (i := 7) rfl))) (mvT hZ (hw _ (List.mem_of_getElem? (i := 3) rfl))) (mvT hZ (hw _ (List.mem_of_getElem? (i := 8) rfl))) (by decide) (backOf (W := 2) (rm2 l Z a0 hw [] o1 (6 : Int32) h127 n0 z128 ) hZ (hw _ (List.mem_of_getElem? (i := 8) rfl)) (hw _ (List.mem_of_getElem? (i := 3) rfl)) (by decide) (by decide)) (g := (mkF m 118 #[.val (.int (8 : Int32)), .val (.int o1), .val (.int p1), .val (.int x1), .val (.int y1), .val (.ref b85)] [(.int (6 : Int32)), (.int o1), (.int (6 : Int32)), (.ref b85)])) rfl (by rw [hml]; rfl) (argsL := [(.int o1), (.int (6 : Int32))]) (rest := [(.int (6 : Int32)), (.ref b85)]) (lenOf pd_0 rfl) rfl (by show 2 * 0 + _ ≤ _; exact Nat.le_of_eq rfl) (hb hby d1_118) (fun _ _ => ⟨rfl, e127, (by decide : 1 + 0 ≤ _), (by decide : 8 + 0 ≤ _)⟩)
  dsimp only [Pt.U, Pt.locs, Pt.cells, Pt.slots] at X131 l131 y131 z131 st131 hQ131
  subst l131 y131 z131
  obtain ⟨rfl, N131q, e131⟩ := hQ131
  have N131 := Fr.app N129 N131q
  have S132 : ∀ t, Steps p.tables e below (T131.setTop (mkF m 125 #[.val (.int (8 : Int32)), .val (.int o1), .val (.int p1), .val (.int x1), .val (.int y1), .val (.ref b85)] [(.int y1), (.int x1), (.int p1), (.int (own_code o1 (6 : Int32))), (.int (6 : Int32)), (.ref b85)])) t → Steps p.tables e below (T131.setTop (mkF m 121 #[.val (.int (8 : Int32)), .val (.int o1), .val (.int p1), .val (.int x1), .val (.int y1), .val (.ref b85)] [(.int (own_code o1 (6 : Int32))), (.int (6 : Int32)), (.ref b85)])) t := by
    intro t kt
    show Steps p.tables e below (T131.setTop (mkF m 121 #[.val (.int (8 : Int32)), .val (.int o1), .val (.int p1), .val (.int x1), .val (.int y1), .val (.ref b85)] [(.int (own_code o1 (6 : Int32))), (.int (6 : Int32)), (.ref b85)])) _
    refine XS.iloadN X131.here hx rfl (hb hby d1_121) rfl ?_
    show Steps p.tables e below (T131.setTop (mkF m 122 #[.val (.int (8 : Int32)), .val (.int o1), .val (.int p1), .val (.int x1), .val (.int y1), .val (.ref b85)] [(.int p1), (.int (own_code o1 (6 : Int32))), (.int (6 : Int32)), (.ref b85)])) _
    refine XS.iloadN X131.here hx rfl (hb hby d1_122) rfl ?_
    show Steps p.tables e below (T131.setTop (mkF m 123 #[.val (.int (8 : Int32)), .val (.int o1), .val (.int p1), .val (.int x1), .val (.int y1), .val (.ref b85)] [(.int x1), (.int p1), (.int (own_code o1 (6 : Int32))), (.int (6 : Int32)), (.ref b85)])) _
    refine XS.iload X131.here hx rfl (hb hby d1_123) rfl ?_
    exact kt
  obtain ⟨_, _, ⟨T133, L133, k133, n133⟩, -, X133, ⟨Lc133, hQ133, l133, y133, z133⟩, st133⟩ := Jvm.LawKit.callS X131 hx (y := (⟨"com/example/bough3/bough3/model/PrincipalSlotsSlotOfPinLaw", "value", "(IIII)I"⟩ : MethodName)) hown (mvT hZ (hw _ (List.mem_of_getElem? (i := 9) rfl))) (mvT hZ (hw _ (List.mem_of_getElem? (i := 10) rfl))) (mvT hZ (hw _ (List.mem_of_getElem? (i := 3) rfl))) (mvT hZ (hw _ (List.mem_of_getElem? (i := 11) rfl))) (by decide) (backOf (W := 2) (rm3 l Z a0 hw [] (own_code o1 (6 : Int32)) p1 x1 y1 h127 n0 z128 ) hZ (hw _ (List.mem_of_getElem? (i := 11) rfl)) (hw _ (List.mem_of_getElem? (i := 3) rfl)) (by decide) (by decide)) (g := (mkF m 125 #[.val (.int (8 : Int32)), .val (.int o1), .val (.int p1), .val (.int x1), .val (.int y1), .val (.ref b85)] [(.int y1), (.int x1), (.int p1), (.int (own_code o1 (6 : Int32))), (.int (6 : Int32)), (.ref b85)])) rfl (by rw [hml]; rfl) (argsL := [(.int (own_code o1 (6 : Int32))), (.int p1), (.int x1), (.int y1)]) (rest := [(.int (6 : Int32)), (.ref b85)]) (lenOf pd_1 rfl) rfl (by show 2 * 0 + _ ≤ _; exact Nat.le_of_eq rfl) (hb hby d1_125) (fun _ _ => ⟨rfl, e131, (by decide : 1 + 0 ≤ _), (by decide : 8 + 0 ≤ _)⟩)
  dsimp only [Pt.U, Pt.locs, Pt.cells, Pt.slots] at X133 l133 y133 z133 st133 hQ133
  subst l133 y133 z133
  obtain ⟨rfl, N133q, e133⟩ := hQ133
  have N133 := Fr.app N131 N133q
  obtain ⟨T134, h134, X134, e134, W134, V134, st134⟩ := ArF.stI X133 hx hZ e133 V127 (i := 6) (by decide) (by decide) (g := (mkF m 128 #[.val (.int (8 : Int32)), .val (.int o1), .val (.int p1), .val (.int x1), .val (.int y1), .val (.ref b85)] [(.int (own_val (own_code o1 (6 : Int32)) p1 x1 y1)), (.int (6 : Int32)), (.ref b85)])) rfl rfl (hb hby d1_128)
  have z135 : n0 ≤ h134.size := Nat.le_trans z128 (Keep.of_wr W134).1
  have N136 := Fr.snoc X134 N133 g_b85
  have S137 : ∀ t, Steps p.tables e below (T134.setTop (mkF m 136 #[.val (.int (8 : Int32)), .val (.int o1), .val (.int p1), .val (.int x1), .val (.int y1), .val (.ref b85)] [(.int (7 : Int32)), (.int o1), (.int (7 : Int32)), (.ref b85)])) t → Steps p.tables e below (T134.setTop (mkF m 129 #[.val (.int (8 : Int32)), .val (.int o1), .val (.int p1), .val (.int x1), .val (.int y1), .val (.ref b85)] [])) t := by
    intro t kt
    show Steps p.tables e below (T134.setTop (mkF m 129 #[.val (.int (8 : Int32)), .val (.int o1), .val (.int p1), .val (.int x1), .val (.int y1), .val (.ref b85)] [])) _
    refine XS.aload X134.here hx rfl (hb hby d1_129) rfl rfl ?_
    show Steps p.tables e below (T134.setTop (mkF m 131 #[.val (.int (8 : Int32)), .val (.int o1), .val (.int p1), .val (.int x1), .val (.int y1), .val (.ref b85)] [(.ref b85)])) _
    refine XS.bipush X134.here hx rfl (hb hby d1_131) ?_
    show Steps p.tables e below (T134.setTop (mkF m 133 #[.val (.int (8 : Int32)), .val (.int o1), .val (.int p1), .val (.int x1), .val (.int y1), .val (.ref b85)] [(.int (7 : Int32)), (.ref b85)])) _
    refine XS.iloadN X134.here hx rfl (hb hby d1_133) rfl ?_
    show Steps p.tables e below (T134.setTop (mkF m 134 #[.val (.int (8 : Int32)), .val (.int o1), .val (.int p1), .val (.int x1), .val (.int y1), .val (.ref b85)] [(.int o1), (.int (7 : Int32)), (.ref b85)])) _
    refine XS.bipush X134.here hx rfl (hb hby d1_134) ?_
    exact kt
  obtain ⟨_, _, ⟨T138, L138, k138, n138⟩, -, X138, ⟨Lc138, hQ138, l138, y138, z138⟩, st138⟩ := Jvm.LawKit.callS X134 hx (y := (⟨"com/example/bough3/bough3/model/PrincipalSlotsSlotOfPinLaw", "code", "(II)I"⟩ : MethodName)) hown (mvT hZ (hw _ (List.mem_of_getElem? (i := 6) rfl))) (mvT hZ (hw _ (List.mem_of_getElem? (i := 7) rfl))) (mvT hZ (hw _ (List.mem_of_getElem? (i := 3) rfl))) (mvT hZ (hw _ (List.mem_of_getElem? (i := 8) rfl))) (by decide) (backOf (W := 2) (rm2 l Z a0 hw [] o1 (7 : Int32) h134 n0 z135 ) hZ (hw _ (List.mem_of_getElem? (i := 8) rfl)) (hw _ (List.mem_of_getElem? (i := 3) rfl)) (by decide) (by decide)) (g := (mkF m 136 #[.val (.int (8 : Int32)), .val (.int o1), .val (.int p1), .val (.int x1), .val (.int y1), .val (.ref b85)] [(.int (7 : Int32)), (.int o1), (.int (7 : Int32)), (.ref b85)])) rfl (by rw [hml]; rfl) (argsL := [(.int o1), (.int (7 : Int32))]) (rest := [(.int (7 : Int32)), (.ref b85)]) (lenOf pd_0 rfl) rfl (by show 2 * 0 + _ ≤ _; exact Nat.le_of_eq rfl) (hb hby d1_136) (fun _ _ => ⟨rfl, e134, (by decide : 1 + 0 ≤ _), (by decide : 8 + 0 ≤ _)⟩)
  dsimp only [Pt.U, Pt.locs, Pt.cells, Pt.slots] at X138 l138 y138 z138 st138 hQ138
  subst l138 y138 z138
  obtain ⟨rfl, N138q, e138⟩ := hQ138
  have N138 := Fr.app N136 N138q
  have S139 : ∀ t, Steps p.tables e below (T138.setTop (mkF m 143 #[.val (.int (8 : Int32)), .val (.int o1), .val (.int p1), .val (.int x1), .val (.int y1), .val (.ref b85)] [(.int y1), (.int x1), (.int p1), (.int (own_code o1 (7 : Int32))), (.int (7 : Int32)), (.ref b85)])) t → Steps p.tables e below (T138.setTop (mkF m 139 #[.val (.int (8 : Int32)), .val (.int o1), .val (.int p1), .val (.int x1), .val (.int y1), .val (.ref b85)] [(.int (own_code o1 (7 : Int32))), (.int (7 : Int32)), (.ref b85)])) t := by
    intro t kt
    show Steps p.tables e below (T138.setTop (mkF m 139 #[.val (.int (8 : Int32)), .val (.int o1), .val (.int p1), .val (.int x1), .val (.int y1), .val (.ref b85)] [(.int (own_code o1 (7 : Int32))), (.int (7 : Int32)), (.ref b85)])) _
    refine XS.iloadN X138.here hx rfl (hb hby d1_139) rfl ?_
    show Steps p.tables e below (T138.setTop (mkF m 140 #[.val (.int (8 : Int32)), .val (.int o1), .val (.int p1), .val (.int x1), .val (.int y1), .val (.ref b85)] [(.int p1), (.int (own_code o1 (7 : Int32))), (.int (7 : Int32)), (.ref b85)])) _
    refine XS.iloadN X138.here hx rfl (hb hby d1_140) rfl ?_
    show Steps p.tables e below (T138.setTop (mkF m 141 #[.val (.int (8 : Int32)), .val (.int o1), .val (.int p1), .val (.int x1), .val (.int y1), .val (.ref b85)] [(.int x1), (.int p1), (.int (own_code o1 (7 : Int32))), (.int (7 : Int32)), (.ref b85)])) _
    refine XS.iload X138.here hx rfl (hb hby d1_141) rfl ?_
    exact kt
  obtain ⟨_, _, ⟨T140, L140, k140, n140⟩, -, X140, ⟨Lc140, hQ140, l140, y140, z140⟩, st140⟩ := Jvm.LawKit.callS X138 hx (y := (⟨"com/example/bough3/bough3/model/PrincipalSlotsSlotOfPinLaw", "value", "(IIII)I"⟩ : MethodName)) hown (mvT hZ (hw _ (List.mem_of_getElem? (i := 9) rfl))) (mvT hZ (hw _ (List.mem_of_getElem? (i := 10) rfl))) (mvT hZ (hw _ (List.mem_of_getElem? (i := 3) rfl))) (mvT hZ (hw _ (List.mem_of_getElem? (i := 11) rfl))) (by decide) (backOf (W := 2) (rm3 l Z a0 hw [] (own_code o1 (7 : Int32)) p1 x1 y1 h134 n0 z135 ) hZ (hw _ (List.mem_of_getElem? (i := 11) rfl)) (hw _ (List.mem_of_getElem? (i := 3) rfl)) (by decide) (by decide)) (g := (mkF m 143 #[.val (.int (8 : Int32)), .val (.int o1), .val (.int p1), .val (.int x1), .val (.int y1), .val (.ref b85)] [(.int y1), (.int x1), (.int p1), (.int (own_code o1 (7 : Int32))), (.int (7 : Int32)), (.ref b85)])) rfl (by rw [hml]; rfl) (argsL := [(.int (own_code o1 (7 : Int32))), (.int p1), (.int x1), (.int y1)]) (rest := [(.int (7 : Int32)), (.ref b85)]) (lenOf pd_1 rfl) rfl (by show 2 * 0 + _ ≤ _; exact Nat.le_of_eq rfl) (hb hby d1_143) (fun _ _ => ⟨rfl, e138, (by decide : 1 + 0 ≤ _), (by decide : 8 + 0 ≤ _)⟩)
  dsimp only [Pt.U, Pt.locs, Pt.cells, Pt.slots] at X140 l140 y140 z140 st140 hQ140
  subst l140 y140 z140
  obtain ⟨rfl, N140q, e140⟩ := hQ140
  have N140 := Fr.app N138 N140q
  obtain ⟨T141, h141, X141, e141, W141, V141, st141⟩ := ArF.stI X140 hx hZ e140 V134 (i := 7) (by decide) (by decide) (g := (mkF m 146 #[.val (.int (8 : Int32)), .val (.int o1), .val (.int p1), .val (.int x1), .val (.int y1), .val (.ref b85)] [(.int (own_val (own_code o1 (7 : Int32)) p1 x1 y1)), (.int (7 : Int32)), (.ref b85)])) rfl rfl (hb hby d1_146)
  have z142 : n0 ≤ h141.size := Nat.le_trans z135 (Keep.of_wr W141).1
  have N143 := Fr.snoc X141 N140 g_b85
  have S144 : ∀ t, Steps p.tables e below (T141.setTop (mkF m 149 #[.val (.int (8 : Int32)), .val (.int o1), .val (.int p1), .val (.int x1), .val (.int y1), .val (.ref b85)] [(.ref b85)])) t → Steps p.tables e below (T141.setTop (mkF m 147 #[.val (.int (8 : Int32)), .val (.int o1), .val (.int p1), .val (.int x1), .val (.int y1), .val (.ref b85)] [])) t := by
    intro t kt
    show Steps p.tables e below (T141.setTop (mkF m 147 #[.val (.int (8 : Int32)), .val (.int o1), .val (.int p1), .val (.int x1), .val (.int y1), .val (.ref b85)] [])) _
    refine XS.aload X141.here hx rfl (hb hby d1_147) rfl rfl ?_
    exact kt
  have C145 : ∀ t, Steps p.tables e below (T141.setTop (mkF m 149 #[.val (.int (8 : Int32)), .val (.int o1), .val (.int p1), .val (.int x1), .val (.int y1), .val (.ref b85)] [(.ref b85)])) t → Steps p.tables e below (s₁.setTop (mkF m 0 #[.val (.int (8 : Int32)), .val (.int o1), .val (.int p1), .val (.int x1), .val (.int y1), .unset] [])) t := (fun t k => (S84 t (st85 t (S88 t (st89 t (S90 t (st91 t (st92 t (S95 t (st96 t (S97 t (st98 t (st99 t (S102 t (st103 t (S104 t (st105 t (st106 t (S109 t (st110 t (S111 t (st112 t (st113 t (S116 t (st117 t (S118 t (st119 t (st120 t (S123 t (st124 t (S125 t (st126 t (st127 t (S130 t (st131 t (S132 t (st133 t (st134 t (S137 t (st138 t (S139 t (st140 t (st141 t (S144 t k))))))))))))))))))))))))))))))))))))))))))))
  obtain ⟨fs, hr, hrun, hended, hW, hsame⟩ := X141.leave (v := some (.ref b85)) (fun h => by rw [Bd.returns] at h; cases h)
  refine ⟨_, _, pre0 _ (C145 _ ?_), hrun, hended, _, _, rfl, ?_, ⟨_, rfl⟩, hW, hsame.mono (by decide) (by decide)⟩
  · exact retOut X141 hx Bd.returns rfl (Or.inr (Or.inr (Or.inr (Or.inr ⟨rfl, rfl, rfl⟩)))) (hb hby d1_149) hr
  · show Q_rm_t8 Z o1 p1 x1 y1 h0 n0 _ T141.heap _
    rw [e141]
    have V146 := V141.congr (f' := (fun q => (.int (own_tab o1 p1 x1 y1 q)))) (fun q hq => by rcases (show q = 0 ∨ q = 1 ∨ q = 2 ∨ q = 3 ∨ q = 4 ∨ q = 5 ∨ q = 6 ∨ q = 7 by omega) with rfl | rfl | rfl | rfl | rfl | rfl | rfl | rfl <;> rfl)
    exact ⟨_, rfl, N143, (((((((((K86.ext E85).wr W92 (Or.inr sz_b85)).wr W99 (Or.inr sz_b85)).wr W106 (Or.inr sz_b85)).wr W113 (Or.inr sz_b85)).wr W120 (Or.inr sz_b85)).wr W127 (Or.inr sz_b85)).wr W134 (Or.inr sz_b85)).wr W141 (Or.inr sz_b85)), sz_b85, V146⟩
theorem ef_rm5 (m : MethodId) (x0 : Addr) (x1 : Int32) (x2 : Int32) : entryFrame m #[(.ref x0), (.int x1), (.int x2)] 4 = mkF m 0 #[.val (.ref x0), .val (.int x1), .val (.int x2), .unset] [] := by first | (simp [entryFrame, mkF, argsToLocals, Value.category]; done) | rfl
def Q_rm5 (Z : State) (t1 : Addr) (p1 : Int32) (h1 : Int32) (n : Nat) (f1 : Nat → Int32) (h0 : Heap) (n0 : Nat) (v : Option Value) (h : Heap) (L : List Loc) : Prop := v = some (.int (own_ff (own_G f1) h1 ((Int32.ofNat n) - (1 : Int32)) p1)) ∧ Fr n0 L ∧ h = h0
set_option maxRecDepth 65536 in
set_option maxHeartbeats 40000000 in
theorem rm5 (l : Launch) (Z : State) (a0 : Array Value) (hw : ∀ d ∈ tables_1, d.before a0 Z = true) (ws : List Jvm.Cond) (t1 : Addr) (p1 : Int32) (h1 : Int32) (n : Nat) (f1 : Nat → Int32) (h0 : Heap) (n0 : Nat) (Z0 : n0 ≤ h0.size) (F147 : ArF Z h0 t1 .int n (fun q => (.int (f1 q)))) (hn : own_sz n) :
    MetFree l (⟨"com/example/bough3/bough3/model/PrincipalSlotsSlotOfPinLaw", "firstFrom", "([III)I"⟩ : MethodName) (head1 (Jvm.Cond.code (⟨"com/example/bough3/bough3/model/PrincipalSlotsSlotOfPinLaw", "firstFrom", "([III)I"⟩ : MethodName) method_6_code 4 (some .int) :: ws) ({ frames := 1, cells := 0, slots := 0, locals := 14 } : Room)) (fun a U => a = #[(.ref t1), (.int p1), (.int h1)] ∧ Z.Warmed39 U.vm ∧ U.heap = h0) (fun _ _ _ _ _ => True) (fun _ U o U' => ∃ v L, o = .returned v ∧ Q_rm5 Z t1 p1 h1 n f1 h0 n0 v U'.heap L ∧ FrameEnd U o U' L ({ frames := 1, cells := 0, slots := 0, locals := 14 } : Room).cells ({ frames := 1, cells := 0, slots := 0, locals := 14 } : Room).slots) := by
  refine MetFree.of_bodySF (plainFor_of_name pn_0) hisR ?_
  intro p e s m args below meth c s₁ Bd hml0 hP hK
  obtain ⟨rfl, hZ, hh⟩ := hP
  have hx := Bd.exec
  have hby := Bd.bytes
  have hml : c.maxLocals = 4 := hml0
  have hown : s.vm.findClass "com/example/bough3/bough3/model/PrincipalSlotsSlotOfPinLaw" = some m.cls := findClass_of_methodNamed Bd.named
  have hnm := (name_of_methodNamed Bd.named Bd.method).1
  have X0 : Stand p l e ({ frames := 1, cells := 0, slots := 0, locals := 14 } : Room) s m #[(.ref t1), (.int p1), (.int h1)] below meth c s₁ [] 0 0 := Stand.of_body Bd
  have e0 : s₁.heap = h0 := by rw [← hh, Bd.state]; rfl
  have N0 := Fr.nil n0
  have pre0 : ∀ t, Steps p.tables e below (s₁.setTop (mkF m 0 #[.val (.ref t1), .val (.int p1), .val (.int h1), .unset] [])) t → Steps p.tables e below (s₁.setTop (entryFrame m #[(.ref t1), (.int p1), (.int h1)] 4)) t := fun t k => castTop (ef_rm5 m t1 p1 h1) k
  have S148 : ∀ t, Steps p.tables e below (s₁.setTop (mkF m 10 #[.val (.ref t1), .val (.int p1), .val (.int h1), .val (.int ((Int32.ofNat n) - (1 : Int32)))] [(.int (h1 &&& ((Int32.ofNat n) - (1 : Int32)))), (.int p1), (.ref t1)])) t → Steps p.tables e below (s₁.setTop (mkF m 0 #[.val (.ref t1), .val (.int p1), .val (.int h1), .unset] [])) t := by
    intro t kt
    show Steps p.tables e below (s₁.setTop (mkF m 0 #[.val (.ref t1), .val (.int p1), .val (.int h1), .unset] [])) _
    refine XS.aloadN X0.here hx rfl (hb hby d5_0) rfl rfl ?_
    show Steps p.tables e below (s₁.setTop (mkF m 1 #[.val (.ref t1), .val (.int p1), .val (.int h1), .unset] [(.ref t1)])) _
    refine ArF.len X0 hx hZ e0 F147 (g := (mkF m 1 #[.val (.ref t1), .val (.int p1), .val (.int h1), .unset] [(.ref t1)])) rfl rfl (hb hby d5_1) _ ?_
    show Steps p.tables e below (s₁.setTop (mkF m 2 #[.val (.ref t1), .val (.int p1), .val (.int h1), .unset] [(.int (Int32.ofNat n))])) _
    refine XS.iconst X0.here hx rfl (hb hby d5_2) ?_
    show Steps p.tables e below (s₁.setTop (mkF m 3 #[.val (.ref t1), .val (.int p1), .val (.int h1), .unset] [(.int (1 : Int32)), (.int (Int32.ofNat n))])) _
    refine XS.isub X0.here hx rfl (hb hby d5_3) rfl ?_
    show Steps p.tables e below (s₁.setTop (mkF m 4 #[.val (.ref t1), .val (.int p1), .val (.int h1), .unset] [(.int ((Int32.ofNat n) - (1 : Int32)))])) _
    refine XS.istoreN X0.here hx rfl (hb hby d5_4) rfl (l' := #[.val (.ref t1), .val (.int p1), .val (.int h1), .val (.int ((Int32.ofNat n) - (1 : Int32)))]) rfl ?_
    show Steps p.tables e below (s₁.setTop (mkF m 5 #[.val (.ref t1), .val (.int p1), .val (.int h1), .val (.int ((Int32.ofNat n) - (1 : Int32)))] [])) _
    refine XS.aloadN X0.here hx rfl (hb hby d5_5) rfl rfl ?_
    show Steps p.tables e below (s₁.setTop (mkF m 6 #[.val (.ref t1), .val (.int p1), .val (.int h1), .val (.int ((Int32.ofNat n) - (1 : Int32)))] [(.ref t1)])) _
    refine XS.iloadN X0.here hx rfl (hb hby d5_6) rfl ?_
    show Steps p.tables e below (s₁.setTop (mkF m 7 #[.val (.ref t1), .val (.int p1), .val (.int h1), .val (.int ((Int32.ofNat n) - (1 : Int32)))] [(.int p1), (.ref t1)])) _
    refine XS.iloadN X0.here hx rfl (hb hby d5_7) rfl ?_
    show Steps p.tables e below (s₁.setTop (mkF m 8 #[.val (.ref t1), .val (.int p1), .val (.int h1), .val (.int ((Int32.ofNat n) - (1 : Int32)))] [(.int h1), (.int p1), (.ref t1)])) _
    refine XS.iloadN X0.here hx rfl (hb hby d5_8) rfl ?_
    show Steps p.tables e below (s₁.setTop (mkF m 9 #[.val (.ref t1), .val (.int p1), .val (.int h1), .val (.int ((Int32.ofNat n) - (1 : Int32)))] [(.int ((Int32.ofNat n) - (1 : Int32))), (.int h1), (.int p1), (.ref t1)])) _
    refine XS.iand X0.here hx rfl (hb hby d5_9) rfl ?_
    exact kt
  obtain ⟨_, _, ⟨T149, L149, k149, n149⟩, -, X149, ⟨Lc149, hQ149, l149, y149, z149⟩, st149⟩ := Jvm.LawKit.callS X0 hx (y := (⟨"com/example/bough3/bough3/model/PrincipalSlotsSlotOfPinLaw", "stops", "([III)Z"⟩ : MethodName)) hown (mvT hZ (hw _ (List.mem_of_getElem? (i := 20) rfl))) (mvT hZ (hw _ (List.mem_of_getElem? (i := 21) rfl))) (mvT hZ (hw _ (List.mem_of_getElem? (i := 3) rfl))) (mvT hZ (hw _ (List.mem_of_getElem? (i := 22) rfl))) (by decide) (backOf (W := 0) (rm6 l Z a0 hw [] t1 p1 (h1 &&& ((Int32.ofNat n) - (1 : Int32))) (h1 &&& ((Int32.ofNat n) - (1 : Int32))).toInt.toNat n f1 h0 n0 Z0 F147 (own_mask_in _ hn)) hZ (hw _ (List.mem_of_getElem? (i := 22) rfl)) (hw _ (List.mem_of_getElem? (i := 3) rfl)) (by decide) (by decide)) (g := (mkF m 10 #[.val (.ref t1), .val (.int p1), .val (.int h1), .val (.int ((Int32.ofNat n) - (1 : Int32)))] [(.int (h1 &&& ((Int32.ofNat n) - (1 : Int32)))), (.int p1), (.ref t1)])) rfl (by rw [hml]; rfl) (argsL := [(.ref t1), (.int p1), (.int (h1 &&& ((Int32.ofNat n) - (1 : Int32))))]) (rest := []) (lenOf pd_2 rfl) rfl (by show 2 * 0 + _ ≤ _; exact Nat.le_of_eq rfl) (hb hby d5_10) (fun _ _ => ⟨rfl, e0, (by decide : 0 + 0 ≤ _), (by decide : 0 + 0 ≤ _)⟩)
  dsimp only [Pt.U, Pt.locs, Pt.cells, Pt.slots] at X149 l149 y149 z149 st149 hQ149
  subst l149 y149 z149
  obtain ⟨rfl, N149q, e149⟩ := hQ149
  have N149 := Fr.app N0 N149q
  by_cases hc150 : (own_stop (own_G f1 (h1 &&& ((Int32.ofNat n) - (1 : Int32)))) p1) = (0 : Int32)
  · have S151 : ∀ t, Steps p.tables e below (T149.setTop (mkF m 27 #[.val (.ref t1), .val (.int p1), .val (.int h1), .val (.int ((Int32.ofNat n) - (1 : Int32)))] [(.int ((h1 + (1 : Int32)) &&& ((Int32.ofNat n) - (1 : Int32)))), (.int p1), (.ref t1)])) t → Steps p.tables e below (T149.setTop (mkF m 13 #[.val (.ref t1), .val (.int p1), .val (.int h1), .val (.int ((Int32.ofNat n) - (1 : Int32)))] [(.int (own_stop (own_G f1 (h1 &&& ((Int32.ofNat n) - (1 : Int32)))) p1))])) t := by
      intro t kt
      show Steps p.tables e below (T149.setTop (mkF m 13 #[.val (.ref t1), .val (.int p1), .val (.int h1), .val (.int ((Int32.ofNat n) - (1 : Int32)))] [(.int (own_stop (own_G f1 (h1 &&& ((Int32.ofNat n) - (1 : Int32)))) p1))])) _
      refine XS.ifYes X149.here hx rfl (pc0 := 13) (pc' := 20) rfl (hb hby d5_13) rfl ((if0 _ _).trans (teq hc150).1) (by decide) (by decide) ?_
      show Steps p.tables e below (T149.setTop (mkF m 20 #[.val (.ref t1), .val (.int p1), .val (.int h1), .val (.int ((Int32.ofNat n) - (1 : Int32)))] [])) _
      refine XS.aloadN X149.here hx rfl (hb hby d5_20) rfl rfl ?_
      show Steps p.tables e below (T149.setTop (mkF m 21 #[.val (.ref t1), .val (.int p1), .val (.int h1), .val (.int ((Int32.ofNat n) - (1 : Int32)))] [(.ref t1)])) _
      refine XS.iloadN X149.here hx rfl (hb hby d5_21) rfl ?_
      show Steps p.tables e below (T149.setTop (mkF m 22 #[.val (.ref t1), .val (.int p1), .val (.int h1), .val (.int ((Int32.ofNat n) - (1 : Int32)))] [(.int p1), (.ref t1)])) _
      refine XS.iloadN X149.here hx rfl (hb hby d5_22) rfl ?_
      show Steps p.tables e below (T149.setTop (mkF m 23 #[.val (.ref t1), .val (.int p1), .val (.int h1), .val (.int ((Int32.ofNat n) - (1 : Int32)))] [(.int h1), (.int p1), (.ref t1)])) _
      refine XS.iconst X149.here hx rfl (hb hby d5_23) ?_
      show Steps p.tables e below (T149.setTop (mkF m 24 #[.val (.ref t1), .val (.int p1), .val (.int h1), .val (.int ((Int32.ofNat n) - (1 : Int32)))] [(.int (1 : Int32)), (.int h1), (.int p1), (.ref t1)])) _
      refine XS.iadd X149.here hx rfl (hb hby d5_24) rfl ?_
      show Steps p.tables e below (T149.setTop (mkF m 25 #[.val (.ref t1), .val (.int p1), .val (.int h1), .val (.int ((Int32.ofNat n) - (1 : Int32)))] [(.int (h1 + (1 : Int32))), (.int p1), (.ref t1)])) _
      refine XS.iloadN X149.here hx rfl (hb hby d5_25) rfl ?_
      show Steps p.tables e below (T149.setTop (mkF m 26 #[.val (.ref t1), .val (.int p1), .val (.int h1), .val (.int ((Int32.ofNat n) - (1 : Int32)))] [(.int ((Int32.ofNat n) - (1 : Int32))), (.int (h1 + (1 : Int32))), (.int p1), (.ref t1)])) _
      refine XS.iand X149.here hx rfl (hb hby d5_26) rfl ?_
      exact kt
    obtain ⟨_, _, ⟨T152, L152, k152, n152⟩, -, X152, ⟨Lc152, hQ152, l152, y152, z152⟩, st152⟩ := Jvm.LawKit.callS X149 hx (y := (⟨"com/example/bough3/bough3/model/PrincipalSlotsSlotOfPinLaw", "stops", "([III)Z"⟩ : MethodName)) hown (mvT hZ (hw _ (List.mem_of_getElem? (i := 20) rfl))) (mvT hZ (hw _ (List.mem_of_getElem? (i := 21) rfl))) (mvT hZ (hw _ (List.mem_of_getElem? (i := 3) rfl))) (mvT hZ (hw _ (List.mem_of_getElem? (i := 22) rfl))) (by decide) (backOf (W := 0) (rm6 l Z a0 hw [] t1 p1 ((h1 + (1 : Int32)) &&& ((Int32.ofNat n) - (1 : Int32))) ((h1 + (1 : Int32)) &&& ((Int32.ofNat n) - (1 : Int32))).toInt.toNat n f1 h0 n0 Z0 F147 (own_mask_in _ hn)) hZ (hw _ (List.mem_of_getElem? (i := 22) rfl)) (hw _ (List.mem_of_getElem? (i := 3) rfl)) (by decide) (by decide)) (g := (mkF m 27 #[.val (.ref t1), .val (.int p1), .val (.int h1), .val (.int ((Int32.ofNat n) - (1 : Int32)))] [(.int ((h1 + (1 : Int32)) &&& ((Int32.ofNat n) - (1 : Int32)))), (.int p1), (.ref t1)])) rfl (by rw [hml]; rfl) (argsL := [(.ref t1), (.int p1), (.int ((h1 + (1 : Int32)) &&& ((Int32.ofNat n) - (1 : Int32))))]) (rest := []) (lenOf pd_2 rfl) rfl (by show 2 * 0 + _ ≤ _; exact Nat.le_of_eq rfl) (hb hby d5_27) (fun _ _ => ⟨rfl, e149, (by decide : 0 + 0 ≤ _), (by decide : 0 + 0 ≤ _)⟩)
    dsimp only [Pt.U, Pt.locs, Pt.cells, Pt.slots] at X152 l152 y152 z152 st152 hQ152
    subst l152 y152 z152
    obtain ⟨rfl, N152q, e152⟩ := hQ152
    have N152 := Fr.app N149 N152q
    by_cases hc153 : (own_stop (own_G f1 ((h1 + (1 : Int32)) &&& ((Int32.ofNat n) - (1 : Int32)))) p1) = (0 : Int32)
    · have S154 : ∀ t, Steps p.tables e below (T152.setTop (mkF m 46 #[.val (.ref t1), .val (.int p1), .val (.int h1), .val (.int ((Int32.ofNat n) - (1 : Int32)))] [(.int ((h1 + (2 : Int32)) &&& ((Int32.ofNat n) - (1 : Int32)))), (.int p1), (.ref t1)])) t → Steps p.tables e below (T152.setTop (mkF m 30 #[.val (.ref t1), .val (.int p1), .val (.int h1), .val (.int ((Int32.ofNat n) - (1 : Int32)))] [(.int (own_stop (own_G f1 ((h1 + (1 : Int32)) &&& ((Int32.ofNat n) - (1 : Int32)))) p1))])) t := by
        intro t kt
        show Steps p.tables e below (T152.setTop (mkF m 30 #[.val (.ref t1), .val (.int p1), .val (.int h1), .val (.int ((Int32.ofNat n) - (1 : Int32)))] [(.int (own_stop (own_G f1 ((h1 + (1 : Int32)) &&& ((Int32.ofNat n) - (1 : Int32)))) p1))])) _
        refine XS.ifYes X152.here hx rfl (pc0 := 30) (pc' := 39) rfl (hb hby d5_30) rfl ((if0 _ _).trans (teq hc153).1) (by decide) (by decide) ?_
        show Steps p.tables e below (T152.setTop (mkF m 39 #[.val (.ref t1), .val (.int p1), .val (.int h1), .val (.int ((Int32.ofNat n) - (1 : Int32)))] [])) _
        refine XS.aloadN X152.here hx rfl (hb hby d5_39) rfl rfl ?_
        show Steps p.tables e below (T152.setTop (mkF m 40 #[.val (.ref t1), .val (.int p1), .val (.int h1), .val (.int ((Int32.ofNat n) - (1 : Int32)))] [(.ref t1)])) _
        refine XS.iloadN X152.here hx rfl (hb hby d5_40) rfl ?_
        show Steps p.tables e below (T152.setTop (mkF m 41 #[.val (.ref t1), .val (.int p1), .val (.int h1), .val (.int ((Int32.ofNat n) - (1 : Int32)))] [(.int p1), (.ref t1)])) _
        refine XS.iloadN X152.here hx rfl (hb hby d5_41) rfl ?_
        show Steps p.tables e below (T152.setTop (mkF m 42 #[.val (.ref t1), .val (.int p1), .val (.int h1), .val (.int ((Int32.ofNat n) - (1 : Int32)))] [(.int h1), (.int p1), (.ref t1)])) _
        refine XS.iconst X152.here hx rfl (hb hby d5_42) ?_
        show Steps p.tables e below (T152.setTop (mkF m 43 #[.val (.ref t1), .val (.int p1), .val (.int h1), .val (.int ((Int32.ofNat n) - (1 : Int32)))] [(.int (2 : Int32)), (.int h1), (.int p1), (.ref t1)])) _
        refine XS.iadd X152.here hx rfl (hb hby d5_43) rfl ?_
        show Steps p.tables e below (T152.setTop (mkF m 44 #[.val (.ref t1), .val (.int p1), .val (.int h1), .val (.int ((Int32.ofNat n) - (1 : Int32)))] [(.int (h1 + (2 : Int32))), (.int p1), (.ref t1)])) _
        refine XS.iloadN X152.here hx rfl (hb hby d5_44) rfl ?_
        show Steps p.tables e below (T152.setTop (mkF m 45 #[.val (.ref t1), .val (.int p1), .val (.int h1), .val (.int ((Int32.ofNat n) - (1 : Int32)))] [(.int ((Int32.ofNat n) - (1 : Int32))), (.int (h1 + (2 : Int32))), (.int p1), (.ref t1)])) _
        refine XS.iand X152.here hx rfl (hb hby d5_45) rfl ?_
        exact kt
      obtain ⟨_, _, ⟨T155, L155, k155, n155⟩, -, X155, ⟨Lc155, hQ155, l155, y155, z155⟩, st155⟩ := Jvm.LawKit.callS X152 hx (y := (⟨"com/example/bough3/bough3/model/PrincipalSlotsSlotOfPinLaw", "stops", "([III)Z"⟩ : MethodName)) hown (mvT hZ (hw _ (List.mem_of_getElem? (i := 20) rfl))) (mvT hZ (hw _ (List.mem_of_getElem? (i := 21) rfl))) (mvT hZ (hw _ (List.mem_of_getElem? (i := 3) rfl))) (mvT hZ (hw _ (List.mem_of_getElem? (i := 22) rfl))) (by decide) (backOf (W := 0) (rm6 l Z a0 hw [] t1 p1 ((h1 + (2 : Int32)) &&& ((Int32.ofNat n) - (1 : Int32))) ((h1 + (2 : Int32)) &&& ((Int32.ofNat n) - (1 : Int32))).toInt.toNat n f1 h0 n0 Z0 F147 (own_mask_in _ hn)) hZ (hw _ (List.mem_of_getElem? (i := 22) rfl)) (hw _ (List.mem_of_getElem? (i := 3) rfl)) (by decide) (by decide)) (g := (mkF m 46 #[.val (.ref t1), .val (.int p1), .val (.int h1), .val (.int ((Int32.ofNat n) - (1 : Int32)))] [(.int ((h1 + (2 : Int32)) &&& ((Int32.ofNat n) - (1 : Int32)))), (.int p1), (.ref t1)])) rfl (by rw [hml]; rfl) (argsL := [(.ref t1), (.int p1), (.int ((h1 + (2 : Int32)) &&& ((Int32.ofNat n) - (1 : Int32))))]) (rest := []) (lenOf pd_2 rfl) rfl (by show 2 * 0 + _ ≤ _; exact Nat.le_of_eq rfl) (hb hby d5_46) (fun _ _ => ⟨rfl, e152, (by decide : 0 + 0 ≤ _), (by decide : 0 + 0 ≤ _)⟩)
      dsimp only [Pt.U, Pt.locs, Pt.cells, Pt.slots] at X155 l155 y155 z155 st155 hQ155
      subst l155 y155 z155
      obtain ⟨rfl, N155q, e155⟩ := hQ155
      have N155 := Fr.app N152 N155q
      by_cases hc156 : (own_stop (own_G f1 ((h1 + (2 : Int32)) &&& ((Int32.ofNat n) - (1 : Int32)))) p1) = (0 : Int32)
      · have S157 : ∀ t, Steps p.tables e below (T155.setTop (mkF m 65 #[.val (.ref t1), .val (.int p1), .val (.int h1), .val (.int ((Int32.ofNat n) - (1 : Int32)))] [(.int ((h1 + (3 : Int32)) &&& ((Int32.ofNat n) - (1 : Int32)))), (.int p1), (.ref t1)])) t → Steps p.tables e below (T155.setTop (mkF m 49 #[.val (.ref t1), .val (.int p1), .val (.int h1), .val (.int ((Int32.ofNat n) - (1 : Int32)))] [(.int (own_stop (own_G f1 ((h1 + (2 : Int32)) &&& ((Int32.ofNat n) - (1 : Int32)))) p1))])) t := by
          intro t kt
          show Steps p.tables e below (T155.setTop (mkF m 49 #[.val (.ref t1), .val (.int p1), .val (.int h1), .val (.int ((Int32.ofNat n) - (1 : Int32)))] [(.int (own_stop (own_G f1 ((h1 + (2 : Int32)) &&& ((Int32.ofNat n) - (1 : Int32)))) p1))])) _
          refine XS.ifYes X155.here hx rfl (pc0 := 49) (pc' := 58) rfl (hb hby d5_49) rfl ((if0 _ _).trans (teq hc156).1) (by decide) (by decide) ?_
          show Steps p.tables e below (T155.setTop (mkF m 58 #[.val (.ref t1), .val (.int p1), .val (.int h1), .val (.int ((Int32.ofNat n) - (1 : Int32)))] [])) _
          refine XS.aloadN X155.here hx rfl (hb hby d5_58) rfl rfl ?_
          show Steps p.tables e below (T155.setTop (mkF m 59 #[.val (.ref t1), .val (.int p1), .val (.int h1), .val (.int ((Int32.ofNat n) - (1 : Int32)))] [(.ref t1)])) _
          refine XS.iloadN X155.here hx rfl (hb hby d5_59) rfl ?_
          show Steps p.tables e below (T155.setTop (mkF m 60 #[.val (.ref t1), .val (.int p1), .val (.int h1), .val (.int ((Int32.ofNat n) - (1 : Int32)))] [(.int p1), (.ref t1)])) _
          refine XS.iloadN X155.here hx rfl (hb hby d5_60) rfl ?_
          show Steps p.tables e below (T155.setTop (mkF m 61 #[.val (.ref t1), .val (.int p1), .val (.int h1), .val (.int ((Int32.ofNat n) - (1 : Int32)))] [(.int h1), (.int p1), (.ref t1)])) _
          refine XS.iconst X155.here hx rfl (hb hby d5_61) ?_
          show Steps p.tables e below (T155.setTop (mkF m 62 #[.val (.ref t1), .val (.int p1), .val (.int h1), .val (.int ((Int32.ofNat n) - (1 : Int32)))] [(.int (3 : Int32)), (.int h1), (.int p1), (.ref t1)])) _
          refine XS.iadd X155.here hx rfl (hb hby d5_62) rfl ?_
          show Steps p.tables e below (T155.setTop (mkF m 63 #[.val (.ref t1), .val (.int p1), .val (.int h1), .val (.int ((Int32.ofNat n) - (1 : Int32)))] [(.int (h1 + (3 : Int32))), (.int p1), (.ref t1)])) _
          refine XS.iloadN X155.here hx rfl (hb hby d5_63) rfl ?_
          show Steps p.tables e below (T155.setTop (mkF m 64 #[.val (.ref t1), .val (.int p1), .val (.int h1), .val (.int ((Int32.ofNat n) - (1 : Int32)))] [(.int ((Int32.ofNat n) - (1 : Int32))), (.int (h1 + (3 : Int32))), (.int p1), (.ref t1)])) _
          refine XS.iand X155.here hx rfl (hb hby d5_64) rfl ?_
          exact kt
        obtain ⟨_, _, ⟨T158, L158, k158, n158⟩, -, X158, ⟨Lc158, hQ158, l158, y158, z158⟩, st158⟩ := Jvm.LawKit.callS X155 hx (y := (⟨"com/example/bough3/bough3/model/PrincipalSlotsSlotOfPinLaw", "stops", "([III)Z"⟩ : MethodName)) hown (mvT hZ (hw _ (List.mem_of_getElem? (i := 20) rfl))) (mvT hZ (hw _ (List.mem_of_getElem? (i := 21) rfl))) (mvT hZ (hw _ (List.mem_of_getElem? (i := 3) rfl))) (mvT hZ (hw _ (List.mem_of_getElem? (i := 22) rfl))) (by decide) (backOf (W := 0) (rm6 l Z a0 hw [] t1 p1 ((h1 + (3 : Int32)) &&& ((Int32.ofNat n) - (1 : Int32))) ((h1 + (3 : Int32)) &&& ((Int32.ofNat n) - (1 : Int32))).toInt.toNat n f1 h0 n0 Z0 F147 (own_mask_in _ hn)) hZ (hw _ (List.mem_of_getElem? (i := 22) rfl)) (hw _ (List.mem_of_getElem? (i := 3) rfl)) (by decide) (by decide)) (g := (mkF m 65 #[.val (.ref t1), .val (.int p1), .val (.int h1), .val (.int ((Int32.ofNat n) - (1 : Int32)))] [(.int ((h1 + (3 : Int32)) &&& ((Int32.ofNat n) - (1 : Int32)))), (.int p1), (.ref t1)])) rfl (by rw [hml]; rfl) (argsL := [(.ref t1), (.int p1), (.int ((h1 + (3 : Int32)) &&& ((Int32.ofNat n) - (1 : Int32))))]) (rest := []) (lenOf pd_2 rfl) rfl (by show 2 * 0 + _ ≤ _; exact Nat.le_of_eq rfl) (hb hby d5_65) (fun _ _ => ⟨rfl, e155, (by decide : 0 + 0 ≤ _), (by decide : 0 + 0 ≤ _)⟩)
        dsimp only [Pt.U, Pt.locs, Pt.cells, Pt.slots] at X158 l158 y158 z158 st158 hQ158
        subst l158 y158 z158
        obtain ⟨rfl, N158q, e158⟩ := hQ158
        have N158 := Fr.app N155 N158q
        by_cases hc159 : (own_stop (own_G f1 ((h1 + (3 : Int32)) &&& ((Int32.ofNat n) - (1 : Int32)))) p1) = (0 : Int32)
        · have S160 : ∀ t, Steps p.tables e below (T158.setTop (mkF m 84 #[.val (.ref t1), .val (.int p1), .val (.int h1), .val (.int ((Int32.ofNat n) - (1 : Int32)))] [(.int ((h1 + (4 : Int32)) &&& ((Int32.ofNat n) - (1 : Int32)))), (.int p1), (.ref t1)])) t → Steps p.tables e below (T158.setTop (mkF m 68 #[.val (.ref t1), .val (.int p1), .val (.int h1), .val (.int ((Int32.ofNat n) - (1 : Int32)))] [(.int (own_stop (own_G f1 ((h1 + (3 : Int32)) &&& ((Int32.ofNat n) - (1 : Int32)))) p1))])) t := by
            intro t kt
            show Steps p.tables e below (T158.setTop (mkF m 68 #[.val (.ref t1), .val (.int p1), .val (.int h1), .val (.int ((Int32.ofNat n) - (1 : Int32)))] [(.int (own_stop (own_G f1 ((h1 + (3 : Int32)) &&& ((Int32.ofNat n) - (1 : Int32)))) p1))])) _
            refine XS.ifYes X158.here hx rfl (pc0 := 68) (pc' := 77) rfl (hb hby d5_68) rfl ((if0 _ _).trans (teq hc159).1) (by decide) (by decide) ?_
            show Steps p.tables e below (T158.setTop (mkF m 77 #[.val (.ref t1), .val (.int p1), .val (.int h1), .val (.int ((Int32.ofNat n) - (1 : Int32)))] [])) _
            refine XS.aloadN X158.here hx rfl (hb hby d5_77) rfl rfl ?_
            show Steps p.tables e below (T158.setTop (mkF m 78 #[.val (.ref t1), .val (.int p1), .val (.int h1), .val (.int ((Int32.ofNat n) - (1 : Int32)))] [(.ref t1)])) _
            refine XS.iloadN X158.here hx rfl (hb hby d5_78) rfl ?_
            show Steps p.tables e below (T158.setTop (mkF m 79 #[.val (.ref t1), .val (.int p1), .val (.int h1), .val (.int ((Int32.ofNat n) - (1 : Int32)))] [(.int p1), (.ref t1)])) _
            refine XS.iloadN X158.here hx rfl (hb hby d5_79) rfl ?_
            show Steps p.tables e below (T158.setTop (mkF m 80 #[.val (.ref t1), .val (.int p1), .val (.int h1), .val (.int ((Int32.ofNat n) - (1 : Int32)))] [(.int h1), (.int p1), (.ref t1)])) _
            refine XS.iconst X158.here hx rfl (hb hby d5_80) ?_
            show Steps p.tables e below (T158.setTop (mkF m 81 #[.val (.ref t1), .val (.int p1), .val (.int h1), .val (.int ((Int32.ofNat n) - (1 : Int32)))] [(.int (4 : Int32)), (.int h1), (.int p1), (.ref t1)])) _
            refine XS.iadd X158.here hx rfl (hb hby d5_81) rfl ?_
            show Steps p.tables e below (T158.setTop (mkF m 82 #[.val (.ref t1), .val (.int p1), .val (.int h1), .val (.int ((Int32.ofNat n) - (1 : Int32)))] [(.int (h1 + (4 : Int32))), (.int p1), (.ref t1)])) _
            refine XS.iloadN X158.here hx rfl (hb hby d5_82) rfl ?_
            show Steps p.tables e below (T158.setTop (mkF m 83 #[.val (.ref t1), .val (.int p1), .val (.int h1), .val (.int ((Int32.ofNat n) - (1 : Int32)))] [(.int ((Int32.ofNat n) - (1 : Int32))), (.int (h1 + (4 : Int32))), (.int p1), (.ref t1)])) _
            refine XS.iand X158.here hx rfl (hb hby d5_83) rfl ?_
            exact kt
          obtain ⟨_, _, ⟨T161, L161, k161, n161⟩, -, X161, ⟨Lc161, hQ161, l161, y161, z161⟩, st161⟩ := Jvm.LawKit.callS X158 hx (y := (⟨"com/example/bough3/bough3/model/PrincipalSlotsSlotOfPinLaw", "stops", "([III)Z"⟩ : MethodName)) hown (mvT hZ (hw _ (List.mem_of_getElem? (i := 20) rfl))) (mvT hZ (hw _ (List.mem_of_getElem? (i := 21) rfl))) (mvT hZ (hw _ (List.mem_of_getElem? (i := 3) rfl))) (mvT hZ (hw _ (List.mem_of_getElem? (i := 22) rfl))) (by decide) (backOf (W := 0) (rm6 l Z a0 hw [] t1 p1 ((h1 + (4 : Int32)) &&& ((Int32.ofNat n) - (1 : Int32))) ((h1 + (4 : Int32)) &&& ((Int32.ofNat n) - (1 : Int32))).toInt.toNat n f1 h0 n0 Z0 F147 (own_mask_in _ hn)) hZ (hw _ (List.mem_of_getElem? (i := 22) rfl)) (hw _ (List.mem_of_getElem? (i := 3) rfl)) (by decide) (by decide)) (g := (mkF m 84 #[.val (.ref t1), .val (.int p1), .val (.int h1), .val (.int ((Int32.ofNat n) - (1 : Int32)))] [(.int ((h1 + (4 : Int32)) &&& ((Int32.ofNat n) - (1 : Int32)))), (.int p1), (.ref t1)])) rfl (by rw [hml]; rfl) (argsL := [(.ref t1), (.int p1), (.int ((h1 + (4 : Int32)) &&& ((Int32.ofNat n) - (1 : Int32))))]) (rest := []) (lenOf pd_2 rfl) rfl (by show 2 * 0 + _ ≤ _; exact Nat.le_of_eq rfl) (hb hby d5_84) (fun _ _ => ⟨rfl, e158, (by decide : 0 + 0 ≤ _), (by decide : 0 + 0 ≤ _)⟩)
          dsimp only [Pt.U, Pt.locs, Pt.cells, Pt.slots] at X161 l161 y161 z161 st161 hQ161
          subst l161 y161 z161
          obtain ⟨rfl, N161q, e161⟩ := hQ161
          have N161 := Fr.app N158 N161q
          by_cases hc162 : (own_stop (own_G f1 ((h1 + (4 : Int32)) &&& ((Int32.ofNat n) - (1 : Int32)))) p1) = (0 : Int32)
          · have S163 : ∀ t, Steps p.tables e below (T161.setTop (mkF m 103 #[.val (.ref t1), .val (.int p1), .val (.int h1), .val (.int ((Int32.ofNat n) - (1 : Int32)))] [(.int ((h1 + (5 : Int32)) &&& ((Int32.ofNat n) - (1 : Int32)))), (.int p1), (.ref t1)])) t → Steps p.tables e below (T161.setTop (mkF m 87 #[.val (.ref t1), .val (.int p1), .val (.int h1), .val (.int ((Int32.ofNat n) - (1 : Int32)))] [(.int (own_stop (own_G f1 ((h1 + (4 : Int32)) &&& ((Int32.ofNat n) - (1 : Int32)))) p1))])) t := by
              intro t kt
              show Steps p.tables e below (T161.setTop (mkF m 87 #[.val (.ref t1), .val (.int p1), .val (.int h1), .val (.int ((Int32.ofNat n) - (1 : Int32)))] [(.int (own_stop (own_G f1 ((h1 + (4 : Int32)) &&& ((Int32.ofNat n) - (1 : Int32)))) p1))])) _
              refine XS.ifYes X161.here hx rfl (pc0 := 87) (pc' := 96) rfl (hb hby d5_87) rfl ((if0 _ _).trans (teq hc162).1) (by decide) (by decide) ?_
              show Steps p.tables e below (T161.setTop (mkF m 96 #[.val (.ref t1), .val (.int p1), .val (.int h1), .val (.int ((Int32.ofNat n) - (1 : Int32)))] [])) _
              refine XS.aloadN X161.here hx rfl (hb hby d5_96) rfl rfl ?_
              show Steps p.tables e below (T161.setTop (mkF m 97 #[.val (.ref t1), .val (.int p1), .val (.int h1), .val (.int ((Int32.ofNat n) - (1 : Int32)))] [(.ref t1)])) _
              refine XS.iloadN X161.here hx rfl (hb hby d5_97) rfl ?_
              show Steps p.tables e below (T161.setTop (mkF m 98 #[.val (.ref t1), .val (.int p1), .val (.int h1), .val (.int ((Int32.ofNat n) - (1 : Int32)))] [(.int p1), (.ref t1)])) _
              refine XS.iloadN X161.here hx rfl (hb hby d5_98) rfl ?_
              show Steps p.tables e below (T161.setTop (mkF m 99 #[.val (.ref t1), .val (.int p1), .val (.int h1), .val (.int ((Int32.ofNat n) - (1 : Int32)))] [(.int h1), (.int p1), (.ref t1)])) _
              refine XS.iconst X161.here hx rfl (hb hby d5_99) ?_
              show Steps p.tables e below (T161.setTop (mkF m 100 #[.val (.ref t1), .val (.int p1), .val (.int h1), .val (.int ((Int32.ofNat n) - (1 : Int32)))] [(.int (5 : Int32)), (.int h1), (.int p1), (.ref t1)])) _
              refine XS.iadd X161.here hx rfl (hb hby d5_100) rfl ?_
              show Steps p.tables e below (T161.setTop (mkF m 101 #[.val (.ref t1), .val (.int p1), .val (.int h1), .val (.int ((Int32.ofNat n) - (1 : Int32)))] [(.int (h1 + (5 : Int32))), (.int p1), (.ref t1)])) _
              refine XS.iloadN X161.here hx rfl (hb hby d5_101) rfl ?_
              show Steps p.tables e below (T161.setTop (mkF m 102 #[.val (.ref t1), .val (.int p1), .val (.int h1), .val (.int ((Int32.ofNat n) - (1 : Int32)))] [(.int ((Int32.ofNat n) - (1 : Int32))), (.int (h1 + (5 : Int32))), (.int p1), (.ref t1)])) _
              refine XS.iand X161.here hx rfl (hb hby d5_102) rfl ?_
              exact kt
            obtain ⟨_, _, ⟨T164, L164, k164, n164⟩, -, X164, ⟨Lc164, hQ164, l164, y164, z164⟩, st164⟩ := Jvm.LawKit.callS X161 hx (y := (⟨"com/example/bough3/bough3/model/PrincipalSlotsSlotOfPinLaw", "stops", "([III)Z"⟩ : MethodName)) hown (mvT hZ (hw _ (List.mem_of_getElem? (i := 20) rfl))) (mvT hZ (hw _ (List.mem_of_getElem? (i := 21) rfl))) (mvT hZ (hw _ (List.mem_of_getElem? (i := 3) rfl))) (mvT hZ (hw _ (List.mem_of_getElem? (i := 22) rfl))) (by decide) (backOf (W := 0) (rm6 l Z a0 hw [] t1 p1 ((h1 + (5 : Int32)) &&& ((Int32.ofNat n) - (1 : Int32))) ((h1 + (5 : Int32)) &&& ((Int32.ofNat n) - (1 : Int32))).toInt.toNat n f1 h0 n0 Z0 F147 (own_mask_in _ hn)) hZ (hw _ (List.mem_of_getElem? (i := 22) rfl)) (hw _ (List.mem_of_getElem? (i := 3) rfl)) (by decide) (by decide)) (g := (mkF m 103 #[.val (.ref t1), .val (.int p1), .val (.int h1), .val (.int ((Int32.ofNat n) - (1 : Int32)))] [(.int ((h1 + (5 : Int32)) &&& ((Int32.ofNat n) - (1 : Int32)))), (.int p1), (.ref t1)])) rfl (by rw [hml]; rfl) (argsL := [(.ref t1), (.int p1), (.int ((h1 + (5 : Int32)) &&& ((Int32.ofNat n) - (1 : Int32))))]) (rest := []) (lenOf pd_2 rfl) rfl (by show 2 * 0 + _ ≤ _; exact Nat.le_of_eq rfl) (hb hby d5_103) (fun _ _ => ⟨rfl, e161, (by decide : 0 + 0 ≤ _), (by decide : 0 + 0 ≤ _)⟩)
            dsimp only [Pt.U, Pt.locs, Pt.cells, Pt.slots] at X164 l164 y164 z164 st164 hQ164
            subst l164 y164 z164
            obtain ⟨rfl, N164q, e164⟩ := hQ164
            have N164 := Fr.app N161 N164q
            by_cases hc165 : (own_stop (own_G f1 ((h1 + (5 : Int32)) &&& ((Int32.ofNat n) - (1 : Int32)))) p1) = (0 : Int32)
            · have S166 : ∀ t, Steps p.tables e below (T164.setTop (mkF m 123 #[.val (.ref t1), .val (.int p1), .val (.int h1), .val (.int ((Int32.ofNat n) - (1 : Int32)))] [(.int ((h1 + (6 : Int32)) &&& ((Int32.ofNat n) - (1 : Int32)))), (.int p1), (.ref t1)])) t → Steps p.tables e below (T164.setTop (mkF m 106 #[.val (.ref t1), .val (.int p1), .val (.int h1), .val (.int ((Int32.ofNat n) - (1 : Int32)))] [(.int (own_stop (own_G f1 ((h1 + (5 : Int32)) &&& ((Int32.ofNat n) - (1 : Int32)))) p1))])) t := by
                intro t kt
                show Steps p.tables e below (T164.setTop (mkF m 106 #[.val (.ref t1), .val (.int p1), .val (.int h1), .val (.int ((Int32.ofNat n) - (1 : Int32)))] [(.int (own_stop (own_G f1 ((h1 + (5 : Int32)) &&& ((Int32.ofNat n) - (1 : Int32)))) p1))])) _
                refine XS.ifYes X164.here hx rfl (pc0 := 106) (pc' := 115) rfl (hb hby d5_106) rfl ((if0 _ _).trans (teq hc165).1) (by decide) (by decide) ?_
                show Steps p.tables e below (T164.setTop (mkF m 115 #[.val (.ref t1), .val (.int p1), .val (.int h1), .val (.int ((Int32.ofNat n) - (1 : Int32)))] [])) _
                refine XS.aloadN X164.here hx rfl (hb hby d5_115) rfl rfl ?_
                show Steps p.tables e below (T164.setTop (mkF m 116 #[.val (.ref t1), .val (.int p1), .val (.int h1), .val (.int ((Int32.ofNat n) - (1 : Int32)))] [(.ref t1)])) _
                refine XS.iloadN X164.here hx rfl (hb hby d5_116) rfl ?_
                show Steps p.tables e below (T164.setTop (mkF m 117 #[.val (.ref t1), .val (.int p1), .val (.int h1), .val (.int ((Int32.ofNat n) - (1 : Int32)))] [(.int p1), (.ref t1)])) _
                refine XS.iloadN X164.here hx rfl (hb hby d5_117) rfl ?_
                show Steps p.tables e below (T164.setTop (mkF m 118 #[.val (.ref t1), .val (.int p1), .val (.int h1), .val (.int ((Int32.ofNat n) - (1 : Int32)))] [(.int h1), (.int p1), (.ref t1)])) _
                refine XS.bipush X164.here hx rfl (hb hby d5_118) ?_
                show Steps p.tables e below (T164.setTop (mkF m 120 #[.val (.ref t1), .val (.int p1), .val (.int h1), .val (.int ((Int32.ofNat n) - (1 : Int32)))] [(.int (6 : Int32)), (.int h1), (.int p1), (.ref t1)])) _
                refine XS.iadd X164.here hx rfl (hb hby d5_120) rfl ?_
                show Steps p.tables e below (T164.setTop (mkF m 121 #[.val (.ref t1), .val (.int p1), .val (.int h1), .val (.int ((Int32.ofNat n) - (1 : Int32)))] [(.int (h1 + (6 : Int32))), (.int p1), (.ref t1)])) _
                refine XS.iloadN X164.here hx rfl (hb hby d5_121) rfl ?_
                show Steps p.tables e below (T164.setTop (mkF m 122 #[.val (.ref t1), .val (.int p1), .val (.int h1), .val (.int ((Int32.ofNat n) - (1 : Int32)))] [(.int ((Int32.ofNat n) - (1 : Int32))), (.int (h1 + (6 : Int32))), (.int p1), (.ref t1)])) _
                refine XS.iand X164.here hx rfl (hb hby d5_122) rfl ?_
                exact kt
              obtain ⟨_, _, ⟨T167, L167, k167, n167⟩, -, X167, ⟨Lc167, hQ167, l167, y167, z167⟩, st167⟩ := Jvm.LawKit.callS X164 hx (y := (⟨"com/example/bough3/bough3/model/PrincipalSlotsSlotOfPinLaw", "stops", "([III)Z"⟩ : MethodName)) hown (mvT hZ (hw _ (List.mem_of_getElem? (i := 20) rfl))) (mvT hZ (hw _ (List.mem_of_getElem? (i := 21) rfl))) (mvT hZ (hw _ (List.mem_of_getElem? (i := 3) rfl))) (mvT hZ (hw _ (List.mem_of_getElem? (i := 22) rfl))) (by decide) (backOf (W := 0) (rm6 l Z a0 hw [] t1 p1 ((h1 + (6 : Int32)) &&& ((Int32.ofNat n) - (1 : Int32))) ((h1 + (6 : Int32)) &&& ((Int32.ofNat n) - (1 : Int32))).toInt.toNat n f1 h0 n0 Z0 F147 (own_mask_in _ hn)) hZ (hw _ (List.mem_of_getElem? (i := 22) rfl)) (hw _ (List.mem_of_getElem? (i := 3) rfl)) (by decide) (by decide)) (g := (mkF m 123 #[.val (.ref t1), .val (.int p1), .val (.int h1), .val (.int ((Int32.ofNat n) - (1 : Int32)))] [(.int ((h1 + (6 : Int32)) &&& ((Int32.ofNat n) - (1 : Int32)))), (.int p1), (.ref t1)])) rfl (by rw [hml]; rfl) (argsL := [(.ref t1), (.int p1), (.int ((h1 + (6 : Int32)) &&& ((Int32.ofNat n) - (1 : Int32))))]) (rest := []) (lenOf pd_2 rfl) rfl (by show 2 * 0 + _ ≤ _; exact Nat.le_of_eq rfl) (hb hby d5_123) (fun _ _ => ⟨rfl, e164, (by decide : 0 + 0 ≤ _), (by decide : 0 + 0 ≤ _)⟩)
              dsimp only [Pt.U, Pt.locs, Pt.cells, Pt.slots] at X167 l167 y167 z167 st167 hQ167
              subst l167 y167 z167
              obtain ⟨rfl, N167q, e167⟩ := hQ167
              have N167 := Fr.app N164 N167q
              by_cases hc168 : (own_stop (own_G f1 ((h1 + (6 : Int32)) &&& ((Int32.ofNat n) - (1 : Int32)))) p1) = (0 : Int32)
              · have S169 : ∀ t, Steps p.tables e below (T167.setTop (mkF m 144 #[.val (.ref t1), .val (.int p1), .val (.int h1), .val (.int ((Int32.ofNat n) - (1 : Int32)))] [(.int ((h1 + (7 : Int32)) &&& ((Int32.ofNat n) - (1 : Int32)))), (.int p1), (.ref t1)])) t → Steps p.tables e below (T167.setTop (mkF m 126 #[.val (.ref t1), .val (.int p1), .val (.int h1), .val (.int ((Int32.ofNat n) - (1 : Int32)))] [(.int (own_stop (own_G f1 ((h1 + (6 : Int32)) &&& ((Int32.ofNat n) - (1 : Int32)))) p1))])) t := by
                  intro t kt
                  show Steps p.tables e below (T167.setTop (mkF m 126 #[.val (.ref t1), .val (.int p1), .val (.int h1), .val (.int ((Int32.ofNat n) - (1 : Int32)))] [(.int (own_stop (own_G f1 ((h1 + (6 : Int32)) &&& ((Int32.ofNat n) - (1 : Int32)))) p1))])) _
                  refine XS.ifYes X167.here hx rfl (pc0 := 126) (pc' := 136) rfl (hb hby d5_126) rfl ((if0 _ _).trans (teq hc168).1) (by decide) (by decide) ?_
                  show Steps p.tables e below (T167.setTop (mkF m 136 #[.val (.ref t1), .val (.int p1), .val (.int h1), .val (.int ((Int32.ofNat n) - (1 : Int32)))] [])) _
                  refine XS.aloadN X167.here hx rfl (hb hby d5_136) rfl rfl ?_
                  show Steps p.tables e below (T167.setTop (mkF m 137 #[.val (.ref t1), .val (.int p1), .val (.int h1), .val (.int ((Int32.ofNat n) - (1 : Int32)))] [(.ref t1)])) _
                  refine XS.iloadN X167.here hx rfl (hb hby d5_137) rfl ?_
                  show Steps p.tables e below (T167.setTop (mkF m 138 #[.val (.ref t1), .val (.int p1), .val (.int h1), .val (.int ((Int32.ofNat n) - (1 : Int32)))] [(.int p1), (.ref t1)])) _
                  refine XS.iloadN X167.here hx rfl (hb hby d5_138) rfl ?_
                  show Steps p.tables e below (T167.setTop (mkF m 139 #[.val (.ref t1), .val (.int p1), .val (.int h1), .val (.int ((Int32.ofNat n) - (1 : Int32)))] [(.int h1), (.int p1), (.ref t1)])) _
                  refine XS.bipush X167.here hx rfl (hb hby d5_139) ?_
                  show Steps p.tables e below (T167.setTop (mkF m 141 #[.val (.ref t1), .val (.int p1), .val (.int h1), .val (.int ((Int32.ofNat n) - (1 : Int32)))] [(.int (7 : Int32)), (.int h1), (.int p1), (.ref t1)])) _
                  refine XS.iadd X167.here hx rfl (hb hby d5_141) rfl ?_
                  show Steps p.tables e below (T167.setTop (mkF m 142 #[.val (.ref t1), .val (.int p1), .val (.int h1), .val (.int ((Int32.ofNat n) - (1 : Int32)))] [(.int (h1 + (7 : Int32))), (.int p1), (.ref t1)])) _
                  refine XS.iloadN X167.here hx rfl (hb hby d5_142) rfl ?_
                  show Steps p.tables e below (T167.setTop (mkF m 143 #[.val (.ref t1), .val (.int p1), .val (.int h1), .val (.int ((Int32.ofNat n) - (1 : Int32)))] [(.int ((Int32.ofNat n) - (1 : Int32))), (.int (h1 + (7 : Int32))), (.int p1), (.ref t1)])) _
                  refine XS.iand X167.here hx rfl (hb hby d5_143) rfl ?_
                  exact kt
                obtain ⟨_, _, ⟨T170, L170, k170, n170⟩, -, X170, ⟨Lc170, hQ170, l170, y170, z170⟩, st170⟩ := Jvm.LawKit.callS X167 hx (y := (⟨"com/example/bough3/bough3/model/PrincipalSlotsSlotOfPinLaw", "stops", "([III)Z"⟩ : MethodName)) hown (mvT hZ (hw _ (List.mem_of_getElem? (i := 20) rfl))) (mvT hZ (hw _ (List.mem_of_getElem? (i := 21) rfl))) (mvT hZ (hw _ (List.mem_of_getElem? (i := 3) rfl))) (mvT hZ (hw _ (List.mem_of_getElem? (i := 22) rfl))) (by decide) (backOf (W := 0) (rm6 l Z a0 hw [] t1 p1 ((h1 + (7 : Int32)) &&& ((Int32.ofNat n) - (1 : Int32))) ((h1 + (7 : Int32)) &&& ((Int32.ofNat n) - (1 : Int32))).toInt.toNat n f1 h0 n0 Z0 F147 (own_mask_in _ hn)) hZ (hw _ (List.mem_of_getElem? (i := 22) rfl)) (hw _ (List.mem_of_getElem? (i := 3) rfl)) (by decide) (by decide)) (g := (mkF m 144 #[.val (.ref t1), .val (.int p1), .val (.int h1), .val (.int ((Int32.ofNat n) - (1 : Int32)))] [(.int ((h1 + (7 : Int32)) &&& ((Int32.ofNat n) - (1 : Int32)))), (.int p1), (.ref t1)])) rfl (by rw [hml]; rfl) (argsL := [(.ref t1), (.int p1), (.int ((h1 + (7 : Int32)) &&& ((Int32.ofNat n) - (1 : Int32))))]) (rest := []) (lenOf pd_2 rfl) rfl (by show 2 * 0 + _ ≤ _; exact Nat.le_of_eq rfl) (hb hby d5_144) (fun _ _ => ⟨rfl, e167, (by decide : 0 + 0 ≤ _), (by decide : 0 + 0 ≤ _)⟩)
                dsimp only [Pt.U, Pt.locs, Pt.cells, Pt.slots] at X170 l170 y170 z170 st170 hQ170
                subst l170 y170 z170
                obtain ⟨rfl, N170q, e170⟩ := hQ170
                have N170 := Fr.app N167 N170q
                by_cases hc171 : (own_stop (own_G f1 ((h1 + (7 : Int32)) &&& ((Int32.ofNat n) - (1 : Int32)))) p1) = (0 : Int32)
                · have S172 : ∀ t, Steps p.tables e below (T170.setTop (mkF m 158 #[.val (.ref t1), .val (.int p1), .val (.int h1), .val (.int ((Int32.ofNat n) - (1 : Int32)))] [(.int (-1 : Int32))])) t → Steps p.tables e below (T170.setTop (mkF m 147 #[.val (.ref t1), .val (.int p1), .val (.int h1), .val (.int ((Int32.ofNat n) - (1 : Int32)))] [(.int (own_stop (own_G f1 ((h1 + (7 : Int32)) &&& ((Int32.ofNat n) - (1 : Int32)))) p1))])) t := by
                    intro t kt
                    show Steps p.tables e below (T170.setTop (mkF m 147 #[.val (.ref t1), .val (.int p1), .val (.int h1), .val (.int ((Int32.ofNat n) - (1 : Int32)))] [(.int (own_stop (own_G f1 ((h1 + (7 : Int32)) &&& ((Int32.ofNat n) - (1 : Int32)))) p1))])) _
                    refine XS.ifYes X170.here hx rfl (pc0 := 147) (pc' := 157) rfl (hb hby d5_147) rfl ((if0 _ _).trans (teq hc171).1) (by decide) (by decide) ?_
                    show Steps p.tables e below (T170.setTop (mkF m 157 #[.val (.ref t1), .val (.int p1), .val (.int h1), .val (.int ((Int32.ofNat n) - (1 : Int32)))] [])) _
                    refine XS.iconst X170.here hx rfl (hb hby d5_157) ?_
                    exact kt
                  have C173 : ∀ t, Steps p.tables e below (T170.setTop (mkF m 158 #[.val (.ref t1), .val (.int p1), .val (.int h1), .val (.int ((Int32.ofNat n) - (1 : Int32)))] [(.int (-1 : Int32))])) t → Steps p.tables e below (s₁.setTop (mkF m 0 #[.val (.ref t1), .val (.int p1), .val (.int h1), .unset] [])) t := (fun t k => (S148 t (st149 t (S151 t (st152 t (S154 t (st155 t (S157 t (st158 t (S160 t (st161 t (S163 t (st164 t (S166 t (st167 t (S169 t (st170 t (S172 t k))))))))))))))))))
                  obtain ⟨fs, hr, hrun, hended, hW, hsame⟩ := X170.leave (v := some (.int (-1 : Int32))) (fun h => by rw [Bd.returns] at h; cases h)
                  refine ⟨_, _, pre0 _ (C173 _ ?_), hrun, hended, _, _, rfl, ?_, ⟨_, rfl⟩, hW, hsame.mono (by decide) (by decide)⟩
                  · exact retOut X170 hx (t := .int) Bd.returns rfl (Or.inl ⟨rfl, Or.inl rfl, _, rfl⟩) (hb hby d5_158) hr
                  · show Q_rm5 Z t1 p1 h1 n f1 h0 n0 _ T170.heap _
                    rw [e170]
                    exact ⟨by simp only [own_ff, if_pos hc150, if_pos hc153, if_pos hc156, if_pos hc159, if_pos hc162, if_pos hc165, if_pos hc168, if_pos hc171], N170, rfl⟩
                · have S174 : ∀ t, Steps p.tables e below (T170.setTop (mkF m 156 #[.val (.ref t1), .val (.int p1), .val (.int h1), .val (.int ((Int32.ofNat n) - (1 : Int32)))] [(.int ((h1 + (7 : Int32)) &&& ((Int32.ofNat n) - (1 : Int32))))])) t → Steps p.tables e below (T170.setTop (mkF m 147 #[.val (.ref t1), .val (.int p1), .val (.int h1), .val (.int ((Int32.ofNat n) - (1 : Int32)))] [(.int (own_stop (own_G f1 ((h1 + (7 : Int32)) &&& ((Int32.ofNat n) - (1 : Int32)))) p1))])) t := by
                    intro t kt
                    show Steps p.tables e below (T170.setTop (mkF m 147 #[.val (.ref t1), .val (.int p1), .val (.int h1), .val (.int ((Int32.ofNat n) - (1 : Int32)))] [(.int (own_stop (own_G f1 ((h1 + (7 : Int32)) &&& ((Int32.ofNat n) - (1 : Int32)))) p1))])) _
                    refine XS.ifNo X170.here hx rfl (hb hby d5_147) rfl ((if0 _ _).trans (feq hc171).1) ?_
                    show Steps p.tables e below (T170.setTop (mkF m 150 #[.val (.ref t1), .val (.int p1), .val (.int h1), .val (.int ((Int32.ofNat n) - (1 : Int32)))] [])) _
                    refine XS.iloadN X170.here hx rfl (hb hby d5_150) rfl ?_
                    show Steps p.tables e below (T170.setTop (mkF m 151 #[.val (.ref t1), .val (.int p1), .val (.int h1), .val (.int ((Int32.ofNat n) - (1 : Int32)))] [(.int h1)])) _
                    refine XS.bipush X170.here hx rfl (hb hby d5_151) ?_
                    show Steps p.tables e below (T170.setTop (mkF m 153 #[.val (.ref t1), .val (.int p1), .val (.int h1), .val (.int ((Int32.ofNat n) - (1 : Int32)))] [(.int (7 : Int32)), (.int h1)])) _
                    refine XS.iadd X170.here hx rfl (hb hby d5_153) rfl ?_
                    show Steps p.tables e below (T170.setTop (mkF m 154 #[.val (.ref t1), .val (.int p1), .val (.int h1), .val (.int ((Int32.ofNat n) - (1 : Int32)))] [(.int (h1 + (7 : Int32)))])) _
                    refine XS.iloadN X170.here hx rfl (hb hby d5_154) rfl ?_
                    show Steps p.tables e below (T170.setTop (mkF m 155 #[.val (.ref t1), .val (.int p1), .val (.int h1), .val (.int ((Int32.ofNat n) - (1 : Int32)))] [(.int ((Int32.ofNat n) - (1 : Int32))), (.int (h1 + (7 : Int32)))])) _
                    refine XS.iand X170.here hx rfl (hb hby d5_155) rfl ?_
                    exact kt
                  have C175 : ∀ t, Steps p.tables e below (T170.setTop (mkF m 156 #[.val (.ref t1), .val (.int p1), .val (.int h1), .val (.int ((Int32.ofNat n) - (1 : Int32)))] [(.int ((h1 + (7 : Int32)) &&& ((Int32.ofNat n) - (1 : Int32))))])) t → Steps p.tables e below (s₁.setTop (mkF m 0 #[.val (.ref t1), .val (.int p1), .val (.int h1), .unset] [])) t := (fun t k => (S148 t (st149 t (S151 t (st152 t (S154 t (st155 t (S157 t (st158 t (S160 t (st161 t (S163 t (st164 t (S166 t (st167 t (S169 t (st170 t (S174 t k))))))))))))))))))
                  obtain ⟨fs, hr, hrun, hended, hW, hsame⟩ := X170.leave (v := some (.int ((h1 + (7 : Int32)) &&& ((Int32.ofNat n) - (1 : Int32))))) (fun h => by rw [Bd.returns] at h; cases h)
                  refine ⟨_, _, pre0 _ (C175 _ ?_), hrun, hended, _, _, rfl, ?_, ⟨_, rfl⟩, hW, hsame.mono (by decide) (by decide)⟩
                  · exact retOut X170 hx (t := .int) Bd.returns rfl (Or.inl ⟨rfl, Or.inl rfl, _, rfl⟩) (hb hby d5_156) hr
                  · show Q_rm5 Z t1 p1 h1 n f1 h0 n0 _ T170.heap _
                    rw [e170]
                    exact ⟨by simp only [own_ff, if_pos hc150, if_pos hc153, if_pos hc156, if_pos hc159, if_pos hc162, if_pos hc165, if_pos hc168, if_neg hc171], N170, rfl⟩
              · have S176 : ∀ t, Steps p.tables e below (T167.setTop (mkF m 135 #[.val (.ref t1), .val (.int p1), .val (.int h1), .val (.int ((Int32.ofNat n) - (1 : Int32)))] [(.int ((h1 + (6 : Int32)) &&& ((Int32.ofNat n) - (1 : Int32))))])) t → Steps p.tables e below (T167.setTop (mkF m 126 #[.val (.ref t1), .val (.int p1), .val (.int h1), .val (.int ((Int32.ofNat n) - (1 : Int32)))] [(.int (own_stop (own_G f1 ((h1 + (6 : Int32)) &&& ((Int32.ofNat n) - (1 : Int32)))) p1))])) t := by
                  intro t kt
                  show Steps p.tables e below (T167.setTop (mkF m 126 #[.val (.ref t1), .val (.int p1), .val (.int h1), .val (.int ((Int32.ofNat n) - (1 : Int32)))] [(.int (own_stop (own_G f1 ((h1 + (6 : Int32)) &&& ((Int32.ofNat n) - (1 : Int32)))) p1))])) _
                  refine XS.ifNo X167.here hx rfl (hb hby d5_126) rfl ((if0 _ _).trans (feq hc168).1) ?_
                  show Steps p.tables e below (T167.setTop (mkF m 129 #[.val (.ref t1), .val (.int p1), .val (.int h1), .val (.int ((Int32.ofNat n) - (1 : Int32)))] [])) _
                  refine XS.iloadN X167.here hx rfl (hb hby d5_129) rfl ?_
                  show Steps p.tables e below (T167.setTop (mkF m 130 #[.val (.ref t1), .val (.int p1), .val (.int h1), .val (.int ((Int32.ofNat n) - (1 : Int32)))] [(.int h1)])) _
                  refine XS.bipush X167.here hx rfl (hb hby d5_130) ?_
                  show Steps p.tables e below (T167.setTop (mkF m 132 #[.val (.ref t1), .val (.int p1), .val (.int h1), .val (.int ((Int32.ofNat n) - (1 : Int32)))] [(.int (6 : Int32)), (.int h1)])) _
                  refine XS.iadd X167.here hx rfl (hb hby d5_132) rfl ?_
                  show Steps p.tables e below (T167.setTop (mkF m 133 #[.val (.ref t1), .val (.int p1), .val (.int h1), .val (.int ((Int32.ofNat n) - (1 : Int32)))] [(.int (h1 + (6 : Int32)))])) _
                  refine XS.iloadN X167.here hx rfl (hb hby d5_133) rfl ?_
                  show Steps p.tables e below (T167.setTop (mkF m 134 #[.val (.ref t1), .val (.int p1), .val (.int h1), .val (.int ((Int32.ofNat n) - (1 : Int32)))] [(.int ((Int32.ofNat n) - (1 : Int32))), (.int (h1 + (6 : Int32)))])) _
                  refine XS.iand X167.here hx rfl (hb hby d5_134) rfl ?_
                  exact kt
                have C177 : ∀ t, Steps p.tables e below (T167.setTop (mkF m 135 #[.val (.ref t1), .val (.int p1), .val (.int h1), .val (.int ((Int32.ofNat n) - (1 : Int32)))] [(.int ((h1 + (6 : Int32)) &&& ((Int32.ofNat n) - (1 : Int32))))])) t → Steps p.tables e below (s₁.setTop (mkF m 0 #[.val (.ref t1), .val (.int p1), .val (.int h1), .unset] [])) t := (fun t k => (S148 t (st149 t (S151 t (st152 t (S154 t (st155 t (S157 t (st158 t (S160 t (st161 t (S163 t (st164 t (S166 t (st167 t (S176 t k))))))))))))))))
                obtain ⟨fs, hr, hrun, hended, hW, hsame⟩ := X167.leave (v := some (.int ((h1 + (6 : Int32)) &&& ((Int32.ofNat n) - (1 : Int32))))) (fun h => by rw [Bd.returns] at h; cases h)
                refine ⟨_, _, pre0 _ (C177 _ ?_), hrun, hended, _, _, rfl, ?_, ⟨_, rfl⟩, hW, hsame.mono (by decide) (by decide)⟩
                · exact retOut X167 hx (t := .int) Bd.returns rfl (Or.inl ⟨rfl, Or.inl rfl, _, rfl⟩) (hb hby d5_135) hr
                · show Q_rm5 Z t1 p1 h1 n f1 h0 n0 _ T167.heap _
                  rw [e167]
                  exact ⟨by simp only [own_ff, if_pos hc150, if_pos hc153, if_pos hc156, if_pos hc159, if_pos hc162, if_pos hc165, if_neg hc168], N167, rfl⟩
            · have S178 : ∀ t, Steps p.tables e below (T164.setTop (mkF m 114 #[.val (.ref t1), .val (.int p1), .val (.int h1), .val (.int ((Int32.ofNat n) - (1 : Int32)))] [(.int ((h1 + (5 : Int32)) &&& ((Int32.ofNat n) - (1 : Int32))))])) t → Steps p.tables e below (T164.setTop (mkF m 106 #[.val (.ref t1), .val (.int p1), .val (.int h1), .val (.int ((Int32.ofNat n) - (1 : Int32)))] [(.int (own_stop (own_G f1 ((h1 + (5 : Int32)) &&& ((Int32.ofNat n) - (1 : Int32)))) p1))])) t := by
                intro t kt
                show Steps p.tables e below (T164.setTop (mkF m 106 #[.val (.ref t1), .val (.int p1), .val (.int h1), .val (.int ((Int32.ofNat n) - (1 : Int32)))] [(.int (own_stop (own_G f1 ((h1 + (5 : Int32)) &&& ((Int32.ofNat n) - (1 : Int32)))) p1))])) _
                refine XS.ifNo X164.here hx rfl (hb hby d5_106) rfl ((if0 _ _).trans (feq hc165).1) ?_
                show Steps p.tables e below (T164.setTop (mkF m 109 #[.val (.ref t1), .val (.int p1), .val (.int h1), .val (.int ((Int32.ofNat n) - (1 : Int32)))] [])) _
                refine XS.iloadN X164.here hx rfl (hb hby d5_109) rfl ?_
                show Steps p.tables e below (T164.setTop (mkF m 110 #[.val (.ref t1), .val (.int p1), .val (.int h1), .val (.int ((Int32.ofNat n) - (1 : Int32)))] [(.int h1)])) _
                refine XS.iconst X164.here hx rfl (hb hby d5_110) ?_
                show Steps p.tables e below (T164.setTop (mkF m 111 #[.val (.ref t1), .val (.int p1), .val (.int h1), .val (.int ((Int32.ofNat n) - (1 : Int32)))] [(.int (5 : Int32)), (.int h1)])) _
                refine XS.iadd X164.here hx rfl (hb hby d5_111) rfl ?_
                show Steps p.tables e below (T164.setTop (mkF m 112 #[.val (.ref t1), .val (.int p1), .val (.int h1), .val (.int ((Int32.ofNat n) - (1 : Int32)))] [(.int (h1 + (5 : Int32)))])) _
                refine XS.iloadN X164.here hx rfl (hb hby d5_112) rfl ?_
                show Steps p.tables e below (T164.setTop (mkF m 113 #[.val (.ref t1), .val (.int p1), .val (.int h1), .val (.int ((Int32.ofNat n) - (1 : Int32)))] [(.int ((Int32.ofNat n) - (1 : Int32))), (.int (h1 + (5 : Int32)))])) _
                refine XS.iand X164.here hx rfl (hb hby d5_113) rfl ?_
                exact kt
              have C179 : ∀ t, Steps p.tables e below (T164.setTop (mkF m 114 #[.val (.ref t1), .val (.int p1), .val (.int h1), .val (.int ((Int32.ofNat n) - (1 : Int32)))] [(.int ((h1 + (5 : Int32)) &&& ((Int32.ofNat n) - (1 : Int32))))])) t → Steps p.tables e below (s₁.setTop (mkF m 0 #[.val (.ref t1), .val (.int p1), .val (.int h1), .unset] [])) t := (fun t k => (S148 t (st149 t (S151 t (st152 t (S154 t (st155 t (S157 t (st158 t (S160 t (st161 t (S163 t (st164 t (S178 t k))))))))))))))
              obtain ⟨fs, hr, hrun, hended, hW, hsame⟩ := X164.leave (v := some (.int ((h1 + (5 : Int32)) &&& ((Int32.ofNat n) - (1 : Int32))))) (fun h => by rw [Bd.returns] at h; cases h)
              refine ⟨_, _, pre0 _ (C179 _ ?_), hrun, hended, _, _, rfl, ?_, ⟨_, rfl⟩, hW, hsame.mono (by decide) (by decide)⟩
              · exact retOut X164 hx (t := .int) Bd.returns rfl (Or.inl ⟨rfl, Or.inl rfl, _, rfl⟩) (hb hby d5_114) hr
              · show Q_rm5 Z t1 p1 h1 n f1 h0 n0 _ T164.heap _
                rw [e164]
                exact ⟨by simp only [own_ff, if_pos hc150, if_pos hc153, if_pos hc156, if_pos hc159, if_pos hc162, if_neg hc165], N164, rfl⟩
          · have S180 : ∀ t, Steps p.tables e below (T161.setTop (mkF m 95 #[.val (.ref t1), .val (.int p1), .val (.int h1), .val (.int ((Int32.ofNat n) - (1 : Int32)))] [(.int ((h1 + (4 : Int32)) &&& ((Int32.ofNat n) - (1 : Int32))))])) t → Steps p.tables e below (T161.setTop (mkF m 87 #[.val (.ref t1), .val (.int p1), .val (.int h1), .val (.int ((Int32.ofNat n) - (1 : Int32)))] [(.int (own_stop (own_G f1 ((h1 + (4 : Int32)) &&& ((Int32.ofNat n) - (1 : Int32)))) p1))])) t := by
              intro t kt
              show Steps p.tables e below (T161.setTop (mkF m 87 #[.val (.ref t1), .val (.int p1), .val (.int h1), .val (.int ((Int32.ofNat n) - (1 : Int32)))] [(.int (own_stop (own_G f1 ((h1 + (4 : Int32)) &&& ((Int32.ofNat n) - (1 : Int32)))) p1))])) _
              refine XS.ifNo X161.here hx rfl (hb hby d5_87) rfl ((if0 _ _).trans (feq hc162).1) ?_
              show Steps p.tables e below (T161.setTop (mkF m 90 #[.val (.ref t1), .val (.int p1), .val (.int h1), .val (.int ((Int32.ofNat n) - (1 : Int32)))] [])) _
              refine XS.iloadN X161.here hx rfl (hb hby d5_90) rfl ?_
              show Steps p.tables e below (T161.setTop (mkF m 91 #[.val (.ref t1), .val (.int p1), .val (.int h1), .val (.int ((Int32.ofNat n) - (1 : Int32)))] [(.int h1)])) _
              refine XS.iconst X161.here hx rfl (hb hby d5_91) ?_
              show Steps p.tables e below (T161.setTop (mkF m 92 #[.val (.ref t1), .val (.int p1), .val (.int h1), .val (.int ((Int32.ofNat n) - (1 : Int32)))] [(.int (4 : Int32)), (.int h1)])) _
              refine XS.iadd X161.here hx rfl (hb hby d5_92) rfl ?_
              show Steps p.tables e below (T161.setTop (mkF m 93 #[.val (.ref t1), .val (.int p1), .val (.int h1), .val (.int ((Int32.ofNat n) - (1 : Int32)))] [(.int (h1 + (4 : Int32)))])) _
              refine XS.iloadN X161.here hx rfl (hb hby d5_93) rfl ?_
              show Steps p.tables e below (T161.setTop (mkF m 94 #[.val (.ref t1), .val (.int p1), .val (.int h1), .val (.int ((Int32.ofNat n) - (1 : Int32)))] [(.int ((Int32.ofNat n) - (1 : Int32))), (.int (h1 + (4 : Int32)))])) _
              refine XS.iand X161.here hx rfl (hb hby d5_94) rfl ?_
              exact kt
            have C181 : ∀ t, Steps p.tables e below (T161.setTop (mkF m 95 #[.val (.ref t1), .val (.int p1), .val (.int h1), .val (.int ((Int32.ofNat n) - (1 : Int32)))] [(.int ((h1 + (4 : Int32)) &&& ((Int32.ofNat n) - (1 : Int32))))])) t → Steps p.tables e below (s₁.setTop (mkF m 0 #[.val (.ref t1), .val (.int p1), .val (.int h1), .unset] [])) t := (fun t k => (S148 t (st149 t (S151 t (st152 t (S154 t (st155 t (S157 t (st158 t (S160 t (st161 t (S180 t k))))))))))))
            obtain ⟨fs, hr, hrun, hended, hW, hsame⟩ := X161.leave (v := some (.int ((h1 + (4 : Int32)) &&& ((Int32.ofNat n) - (1 : Int32))))) (fun h => by rw [Bd.returns] at h; cases h)
            refine ⟨_, _, pre0 _ (C181 _ ?_), hrun, hended, _, _, rfl, ?_, ⟨_, rfl⟩, hW, hsame.mono (by decide) (by decide)⟩
            · exact retOut X161 hx (t := .int) Bd.returns rfl (Or.inl ⟨rfl, Or.inl rfl, _, rfl⟩) (hb hby d5_95) hr
            · show Q_rm5 Z t1 p1 h1 n f1 h0 n0 _ T161.heap _
              rw [e161]
              exact ⟨by simp only [own_ff, if_pos hc150, if_pos hc153, if_pos hc156, if_pos hc159, if_neg hc162], N161, rfl⟩
        · have S182 : ∀ t, Steps p.tables e below (T158.setTop (mkF m 76 #[.val (.ref t1), .val (.int p1), .val (.int h1), .val (.int ((Int32.ofNat n) - (1 : Int32)))] [(.int ((h1 + (3 : Int32)) &&& ((Int32.ofNat n) - (1 : Int32))))])) t → Steps p.tables e below (T158.setTop (mkF m 68 #[.val (.ref t1), .val (.int p1), .val (.int h1), .val (.int ((Int32.ofNat n) - (1 : Int32)))] [(.int (own_stop (own_G f1 ((h1 + (3 : Int32)) &&& ((Int32.ofNat n) - (1 : Int32)))) p1))])) t := by
            intro t kt
            show Steps p.tables e below (T158.setTop (mkF m 68 #[.val (.ref t1), .val (.int p1), .val (.int h1), .val (.int ((Int32.ofNat n) - (1 : Int32)))] [(.int (own_stop (own_G f1 ((h1 + (3 : Int32)) &&& ((Int32.ofNat n) - (1 : Int32)))) p1))])) _
            refine XS.ifNo X158.here hx rfl (hb hby d5_68) rfl ((if0 _ _).trans (feq hc159).1) ?_
            show Steps p.tables e below (T158.setTop (mkF m 71 #[.val (.ref t1), .val (.int p1), .val (.int h1), .val (.int ((Int32.ofNat n) - (1 : Int32)))] [])) _
            refine XS.iloadN X158.here hx rfl (hb hby d5_71) rfl ?_
            show Steps p.tables e below (T158.setTop (mkF m 72 #[.val (.ref t1), .val (.int p1), .val (.int h1), .val (.int ((Int32.ofNat n) - (1 : Int32)))] [(.int h1)])) _
            refine XS.iconst X158.here hx rfl (hb hby d5_72) ?_
            show Steps p.tables e below (T158.setTop (mkF m 73 #[.val (.ref t1), .val (.int p1), .val (.int h1), .val (.int ((Int32.ofNat n) - (1 : Int32)))] [(.int (3 : Int32)), (.int h1)])) _
            refine XS.iadd X158.here hx rfl (hb hby d5_73) rfl ?_
            show Steps p.tables e below (T158.setTop (mkF m 74 #[.val (.ref t1), .val (.int p1), .val (.int h1), .val (.int ((Int32.ofNat n) - (1 : Int32)))] [(.int (h1 + (3 : Int32)))])) _
            refine XS.iloadN X158.here hx rfl (hb hby d5_74) rfl ?_
            show Steps p.tables e below (T158.setTop (mkF m 75 #[.val (.ref t1), .val (.int p1), .val (.int h1), .val (.int ((Int32.ofNat n) - (1 : Int32)))] [(.int ((Int32.ofNat n) - (1 : Int32))), (.int (h1 + (3 : Int32)))])) _
            refine XS.iand X158.here hx rfl (hb hby d5_75) rfl ?_
            exact kt
          have C183 : ∀ t, Steps p.tables e below (T158.setTop (mkF m 76 #[.val (.ref t1), .val (.int p1), .val (.int h1), .val (.int ((Int32.ofNat n) - (1 : Int32)))] [(.int ((h1 + (3 : Int32)) &&& ((Int32.ofNat n) - (1 : Int32))))])) t → Steps p.tables e below (s₁.setTop (mkF m 0 #[.val (.ref t1), .val (.int p1), .val (.int h1), .unset] [])) t := (fun t k => (S148 t (st149 t (S151 t (st152 t (S154 t (st155 t (S157 t (st158 t (S182 t k))))))))))
          obtain ⟨fs, hr, hrun, hended, hW, hsame⟩ := X158.leave (v := some (.int ((h1 + (3 : Int32)) &&& ((Int32.ofNat n) - (1 : Int32))))) (fun h => by rw [Bd.returns] at h; cases h)
          refine ⟨_, _, pre0 _ (C183 _ ?_), hrun, hended, _, _, rfl, ?_, ⟨_, rfl⟩, hW, hsame.mono (by decide) (by decide)⟩
          · exact retOut X158 hx (t := .int) Bd.returns rfl (Or.inl ⟨rfl, Or.inl rfl, _, rfl⟩) (hb hby d5_76) hr
          · show Q_rm5 Z t1 p1 h1 n f1 h0 n0 _ T158.heap _
            rw [e158]
            exact ⟨by simp only [own_ff, if_pos hc150, if_pos hc153, if_pos hc156, if_neg hc159], N158, rfl⟩
      · have S184 : ∀ t, Steps p.tables e below (T155.setTop (mkF m 57 #[.val (.ref t1), .val (.int p1), .val (.int h1), .val (.int ((Int32.ofNat n) - (1 : Int32)))] [(.int ((h1 + (2 : Int32)) &&& ((Int32.ofNat n) - (1 : Int32))))])) t → Steps p.tables e below (T155.setTop (mkF m 49 #[.val (.ref t1), .val (.int p1), .val (.int h1), .val (.int ((Int32.ofNat n) - (1 : Int32)))] [(.int (own_stop (own_G f1 ((h1 + (2 : Int32)) &&& ((Int32.ofNat n) - (1 : Int32)))) p1))])) t := by
          intro t kt
          show Steps p.tables e below (T155.setTop (mkF m 49 #[.val (.ref t1), .val (.int p1), .val (.int h1), .val (.int ((Int32.ofNat n) - (1 : Int32)))] [(.int (own_stop (own_G f1 ((h1 + (2 : Int32)) &&& ((Int32.ofNat n) - (1 : Int32)))) p1))])) _
          refine XS.ifNo X155.here hx rfl (hb hby d5_49) rfl ((if0 _ _).trans (feq hc156).1) ?_
          show Steps p.tables e below (T155.setTop (mkF m 52 #[.val (.ref t1), .val (.int p1), .val (.int h1), .val (.int ((Int32.ofNat n) - (1 : Int32)))] [])) _
          refine XS.iloadN X155.here hx rfl (hb hby d5_52) rfl ?_
          show Steps p.tables e below (T155.setTop (mkF m 53 #[.val (.ref t1), .val (.int p1), .val (.int h1), .val (.int ((Int32.ofNat n) - (1 : Int32)))] [(.int h1)])) _
          refine XS.iconst X155.here hx rfl (hb hby d5_53) ?_
          show Steps p.tables e below (T155.setTop (mkF m 54 #[.val (.ref t1), .val (.int p1), .val (.int h1), .val (.int ((Int32.ofNat n) - (1 : Int32)))] [(.int (2 : Int32)), (.int h1)])) _
          refine XS.iadd X155.here hx rfl (hb hby d5_54) rfl ?_
          show Steps p.tables e below (T155.setTop (mkF m 55 #[.val (.ref t1), .val (.int p1), .val (.int h1), .val (.int ((Int32.ofNat n) - (1 : Int32)))] [(.int (h1 + (2 : Int32)))])) _
          refine XS.iloadN X155.here hx rfl (hb hby d5_55) rfl ?_
          show Steps p.tables e below (T155.setTop (mkF m 56 #[.val (.ref t1), .val (.int p1), .val (.int h1), .val (.int ((Int32.ofNat n) - (1 : Int32)))] [(.int ((Int32.ofNat n) - (1 : Int32))), (.int (h1 + (2 : Int32)))])) _
          refine XS.iand X155.here hx rfl (hb hby d5_56) rfl ?_
          exact kt
        have C185 : ∀ t, Steps p.tables e below (T155.setTop (mkF m 57 #[.val (.ref t1), .val (.int p1), .val (.int h1), .val (.int ((Int32.ofNat n) - (1 : Int32)))] [(.int ((h1 + (2 : Int32)) &&& ((Int32.ofNat n) - (1 : Int32))))])) t → Steps p.tables e below (s₁.setTop (mkF m 0 #[.val (.ref t1), .val (.int p1), .val (.int h1), .unset] [])) t := (fun t k => (S148 t (st149 t (S151 t (st152 t (S154 t (st155 t (S184 t k))))))))
        obtain ⟨fs, hr, hrun, hended, hW, hsame⟩ := X155.leave (v := some (.int ((h1 + (2 : Int32)) &&& ((Int32.ofNat n) - (1 : Int32))))) (fun h => by rw [Bd.returns] at h; cases h)
        refine ⟨_, _, pre0 _ (C185 _ ?_), hrun, hended, _, _, rfl, ?_, ⟨_, rfl⟩, hW, hsame.mono (by decide) (by decide)⟩
        · exact retOut X155 hx (t := .int) Bd.returns rfl (Or.inl ⟨rfl, Or.inl rfl, _, rfl⟩) (hb hby d5_57) hr
        · show Q_rm5 Z t1 p1 h1 n f1 h0 n0 _ T155.heap _
          rw [e155]
          exact ⟨by simp only [own_ff, if_pos hc150, if_pos hc153, if_neg hc156], N155, rfl⟩
    · have S186 : ∀ t, Steps p.tables e below (T152.setTop (mkF m 38 #[.val (.ref t1), .val (.int p1), .val (.int h1), .val (.int ((Int32.ofNat n) - (1 : Int32)))] [(.int ((h1 + (1 : Int32)) &&& ((Int32.ofNat n) - (1 : Int32))))])) t → Steps p.tables e below (T152.setTop (mkF m 30 #[.val (.ref t1), .val (.int p1), .val (.int h1), .val (.int ((Int32.ofNat n) - (1 : Int32)))] [(.int (own_stop (own_G f1 ((h1 + (1 : Int32)) &&& ((Int32.ofNat n) - (1 : Int32)))) p1))])) t := by
        intro t kt
        show Steps p.tables e below (T152.setTop (mkF m 30 #[.val (.ref t1), .val (.int p1), .val (.int h1), .val (.int ((Int32.ofNat n) - (1 : Int32)))] [(.int (own_stop (own_G f1 ((h1 + (1 : Int32)) &&& ((Int32.ofNat n) - (1 : Int32)))) p1))])) _
        refine XS.ifNo X152.here hx rfl (hb hby d5_30) rfl ((if0 _ _).trans (feq hc153).1) ?_
        show Steps p.tables e below (T152.setTop (mkF m 33 #[.val (.ref t1), .val (.int p1), .val (.int h1), .val (.int ((Int32.ofNat n) - (1 : Int32)))] [])) _
        refine XS.iloadN X152.here hx rfl (hb hby d5_33) rfl ?_
        show Steps p.tables e below (T152.setTop (mkF m 34 #[.val (.ref t1), .val (.int p1), .val (.int h1), .val (.int ((Int32.ofNat n) - (1 : Int32)))] [(.int h1)])) _
        refine XS.iconst X152.here hx rfl (hb hby d5_34) ?_
        show Steps p.tables e below (T152.setTop (mkF m 35 #[.val (.ref t1), .val (.int p1), .val (.int h1), .val (.int ((Int32.ofNat n) - (1 : Int32)))] [(.int (1 : Int32)), (.int h1)])) _
        refine XS.iadd X152.here hx rfl (hb hby d5_35) rfl ?_
        show Steps p.tables e below (T152.setTop (mkF m 36 #[.val (.ref t1), .val (.int p1), .val (.int h1), .val (.int ((Int32.ofNat n) - (1 : Int32)))] [(.int (h1 + (1 : Int32)))])) _
        refine XS.iloadN X152.here hx rfl (hb hby d5_36) rfl ?_
        show Steps p.tables e below (T152.setTop (mkF m 37 #[.val (.ref t1), .val (.int p1), .val (.int h1), .val (.int ((Int32.ofNat n) - (1 : Int32)))] [(.int ((Int32.ofNat n) - (1 : Int32))), (.int (h1 + (1 : Int32)))])) _
        refine XS.iand X152.here hx rfl (hb hby d5_37) rfl ?_
        exact kt
      have C187 : ∀ t, Steps p.tables e below (T152.setTop (mkF m 38 #[.val (.ref t1), .val (.int p1), .val (.int h1), .val (.int ((Int32.ofNat n) - (1 : Int32)))] [(.int ((h1 + (1 : Int32)) &&& ((Int32.ofNat n) - (1 : Int32))))])) t → Steps p.tables e below (s₁.setTop (mkF m 0 #[.val (.ref t1), .val (.int p1), .val (.int h1), .unset] [])) t := (fun t k => (S148 t (st149 t (S151 t (st152 t (S186 t k))))))
      obtain ⟨fs, hr, hrun, hended, hW, hsame⟩ := X152.leave (v := some (.int ((h1 + (1 : Int32)) &&& ((Int32.ofNat n) - (1 : Int32))))) (fun h => by rw [Bd.returns] at h; cases h)
      refine ⟨_, _, pre0 _ (C187 _ ?_), hrun, hended, _, _, rfl, ?_, ⟨_, rfl⟩, hW, hsame.mono (by decide) (by decide)⟩
      · exact retOut X152 hx (t := .int) Bd.returns rfl (Or.inl ⟨rfl, Or.inl rfl, _, rfl⟩) (hb hby d5_38) hr
      · show Q_rm5 Z t1 p1 h1 n f1 h0 n0 _ T152.heap _
        rw [e152]
        exact ⟨by simp only [own_ff, if_pos hc150, if_neg hc153], N152, rfl⟩
  · have S188 : ∀ t, Steps p.tables e below (T149.setTop (mkF m 19 #[.val (.ref t1), .val (.int p1), .val (.int h1), .val (.int ((Int32.ofNat n) - (1 : Int32)))] [(.int (h1 &&& ((Int32.ofNat n) - (1 : Int32))))])) t → Steps p.tables e below (T149.setTop (mkF m 13 #[.val (.ref t1), .val (.int p1), .val (.int h1), .val (.int ((Int32.ofNat n) - (1 : Int32)))] [(.int (own_stop (own_G f1 (h1 &&& ((Int32.ofNat n) - (1 : Int32)))) p1))])) t := by
      intro t kt
      show Steps p.tables e below (T149.setTop (mkF m 13 #[.val (.ref t1), .val (.int p1), .val (.int h1), .val (.int ((Int32.ofNat n) - (1 : Int32)))] [(.int (own_stop (own_G f1 (h1 &&& ((Int32.ofNat n) - (1 : Int32)))) p1))])) _
      refine XS.ifNo X149.here hx rfl (hb hby d5_13) rfl ((if0 _ _).trans (feq hc150).1) ?_
      show Steps p.tables e below (T149.setTop (mkF m 16 #[.val (.ref t1), .val (.int p1), .val (.int h1), .val (.int ((Int32.ofNat n) - (1 : Int32)))] [])) _
      refine XS.iloadN X149.here hx rfl (hb hby d5_16) rfl ?_
      show Steps p.tables e below (T149.setTop (mkF m 17 #[.val (.ref t1), .val (.int p1), .val (.int h1), .val (.int ((Int32.ofNat n) - (1 : Int32)))] [(.int h1)])) _
      refine XS.iloadN X149.here hx rfl (hb hby d5_17) rfl ?_
      show Steps p.tables e below (T149.setTop (mkF m 18 #[.val (.ref t1), .val (.int p1), .val (.int h1), .val (.int ((Int32.ofNat n) - (1 : Int32)))] [(.int ((Int32.ofNat n) - (1 : Int32))), (.int h1)])) _
      refine XS.iand X149.here hx rfl (hb hby d5_18) rfl ?_
      exact kt
    have C189 : ∀ t, Steps p.tables e below (T149.setTop (mkF m 19 #[.val (.ref t1), .val (.int p1), .val (.int h1), .val (.int ((Int32.ofNat n) - (1 : Int32)))] [(.int (h1 &&& ((Int32.ofNat n) - (1 : Int32))))])) t → Steps p.tables e below (s₁.setTop (mkF m 0 #[.val (.ref t1), .val (.int p1), .val (.int h1), .unset] [])) t := (fun t k => (S148 t (st149 t (S188 t k))))
    obtain ⟨fs, hr, hrun, hended, hW, hsame⟩ := X149.leave (v := some (.int (h1 &&& ((Int32.ofNat n) - (1 : Int32))))) (fun h => by rw [Bd.returns] at h; cases h)
    refine ⟨_, _, pre0 _ (C189 _ ?_), hrun, hended, _, _, rfl, ?_, ⟨_, rfl⟩, hW, hsame.mono (by decide) (by decide)⟩
    · exact retOut X149 hx (t := .int) Bd.returns rfl (Or.inl ⟨rfl, Or.inl rfl, _, rfl⟩) (hb hby d5_19) hr
    · show Q_rm5 Z t1 p1 h1 n f1 h0 n0 _ T149.heap _
      rw [e149]
      exact ⟨by simp only [own_ff, if_neg hc150], N149, rfl⟩
theorem ef_rm4 (m : MethodId) (x0 : Addr) (x1 : Int32) : entryFrame m #[(.ref x0), (.int x1)] 5 = mkF m 0 #[.val (.ref x0), .val (.int x1), .unset, .unset, .unset] [] := by first | (simp [entryFrame, mkF, argsToLocals, Value.category]; done) | rfl
def Q_rm4 (Z : State) (t1 : Addr) (p1 : Int32) (n : Nat) (k : Nat) (f1 : Nat → Int32) (h0 : Heap) (n0 : Nat) (v : Option Value) (h : Heap) (L : List Loc) : Prop := v = some (.int (own_it ((Int32.ofNat n) - (1 : Int32)) k ((own_hash p1) &&& ((Int32.ofNat n) - (1 : Int32))))) ∧ Fr n0 L ∧ h = h0
set_option maxRecDepth 65536 in
set_option maxHeartbeats 40000000 in
theorem rm4 (l : Launch) (Z : State) (a0 : Array Value) (hw : ∀ d ∈ tables_1, d.before a0 Z = true) (ws : List Jvm.Cond) (t1 : Addr) (p1 : Int32) (n : Nat) (k : Nat) (f1 : Nat → Int32) (h0 : Heap) (n0 : Nat) (Z0 : n0 ≤ h0.size) (F190 : ArF Z h0 t1 .int n (fun q => (.int (f1 q)))) (hn : own_sz n) (hno : ∀ j, j < k → own_stop (own_G f1 (own_it ((Int32.ofNat n) - (1 : Int32)) j ((own_hash p1) &&& ((Int32.ofNat n) - (1 : Int32))))) p1 = 0) (hst : ¬ own_stop (own_G f1 (own_it ((Int32.ofNat n) - (1 : Int32)) k ((own_hash p1) &&& ((Int32.ofNat n) - (1 : Int32))))) p1 = 0) :
    MetFree l (⟨"com/example/bough3/bough3/model/PrincipalSlots", "slotOf", "([II)I"⟩ : MethodName) (head1 (Jvm.Cond.code (⟨"com/example/bough3/bough3/model/PrincipalSlots", "slotOf", "([II)I"⟩ : MethodName) prog_50_method_5_code 5 (some .int) :: ws) ({ frames := 0, cells := 0, slots := 0, locals := 0 } : Room)) (fun a U => a = #[(.ref t1), (.int p1)] ∧ Z.Warmed39 U.vm ∧ U.heap = h0) (fun _ _ _ _ _ => True) (fun _ U o U' => ∃ v L, o = .returned v ∧ Q_rm4 Z t1 p1 n k f1 h0 n0 v U'.heap L ∧ FrameEnd U o U' L ({ frames := 0, cells := 0, slots := 0, locals := 0 } : Room).cells ({ frames := 0, cells := 0, slots := 0, locals := 0 } : Room).slots) := by
  refine MetFree.of_bodySF (plainFor_of_name pn_1) hisR ?_
  intro p e s m args below meth c s₁ Bd hml0 hP hK
  obtain ⟨rfl, hZ, hh⟩ := hP
  have hx := Bd.exec
  have hby := Bd.bytes
  have hml : c.maxLocals = 5 := hml0
  have hown : s.vm.findClass "com/example/bough3/bough3/model/PrincipalSlots" = some m.cls := findClass_of_methodNamed Bd.named
  have hnm := (name_of_methodNamed Bd.named Bd.method).1
  have X0 : Stand p l e ({ frames := 0, cells := 0, slots := 0, locals := 0 } : Room) s m #[(.ref t1), (.int p1)] below meth c s₁ [] 0 0 := Stand.of_body Bd
  have e0 : s₁.heap = h0 := by rw [← hh, Bd.state]; rfl
  have N0 := Fr.nil n0
  have pre0 : ∀ t, Steps p.tables e below (s₁.setTop (mkF m 0 #[.val (.ref t1), .val (.int p1), .unset, .unset, .unset] [])) t → Steps p.tables e below (s₁.setTop (entryFrame m #[(.ref t1), (.int p1)] 5)) t := fun t k => castTop (ef_rm4 m t1 p1) k
  have LP : ∀ (k : Nat) (xv : Int32), xv.toInt = ((xv.toInt.toNat : Nat) : Int) ∧ xv.toInt.toNat < n → (∀ j, j < k → own_stop (own_G f1 (own_it ((Int32.ofNat n) - (1 : Int32)) j xv)) p1 = 0) → ¬ own_stop (own_G f1 (own_it ((Int32.ofNat n) - (1 : Int32)) k xv)) p1 = 0 → ∀ t, Steps p.tables e below (s₁.setTop (mkF m 49 #[.val (.ref t1), .val (.int p1), .val (.int ((Int32.ofNat n) - (1 : Int32))), .val (.int (p1 * (-1640531527 : Int32))), .val (.int (own_it ((Int32.ofNat n) - (1 : Int32)) k xv))] [(.int (own_it ((Int32.ofNat n) - (1 : Int32)) k xv))])) t → Steps p.tables e below (s₁.setTop (mkF m 20 #[.val (.ref t1), .val (.int p1), .val (.int ((Int32.ofNat n) - (1 : Int32))), .val (.int (p1 * (-1640531527 : Int32))), .val (.int xv)] [])) t := by
    intro k
    induction k with
    | zero =>
      intro xv hi hno hst
      have S191 : ∀ t, Steps p.tables e below (s₁.setTop (mkF m 25 #[.val (.ref t1), .val (.int p1), .val (.int ((Int32.ofNat n) - (1 : Int32))), .val (.int (p1 * (-1640531527 : Int32))), .val (.int xv)] [(.int (-1 : Int32)), (.int (own_G f1 xv))])) t → Steps p.tables e below (s₁.setTop (mkF m 20 #[.val (.ref t1), .val (.int p1), .val (.int ((Int32.ofNat n) - (1 : Int32))), .val (.int (p1 * (-1640531527 : Int32))), .val (.int xv)] [])) t := by
        intro t kt
        show Steps p.tables e below (s₁.setTop (mkF m 20 #[.val (.ref t1), .val (.int p1), .val (.int ((Int32.ofNat n) - (1 : Int32))), .val (.int (p1 * (-1640531527 : Int32))), .val (.int xv)] [])) _
        refine XS.aloadN X0.here hx rfl (hb hby d4_20) rfl rfl ?_
        show Steps p.tables e below (s₁.setTop (mkF m 21 #[.val (.ref t1), .val (.int p1), .val (.int ((Int32.ofNat n) - (1 : Int32))), .val (.int (p1 * (-1640531527 : Int32))), .val (.int xv)] [(.ref t1)])) _
        refine XS.iload X0.here hx rfl (hb hby d4_21) rfl ?_
        show Steps p.tables e below (s₁.setTop (mkF m 23 #[.val (.ref t1), .val (.int p1), .val (.int ((Int32.ofNat n) - (1 : Int32))), .val (.int (p1 * (-1640531527 : Int32))), .val (.int xv)] [(.int xv), (.ref t1)])) _
        refine ArF.ldI X0 hx hZ e0 F190 (i := xv.toInt.toNat) hi.1 hi.2 (v := (own_G f1 xv)) rfl (g := (mkF m 23 #[.val (.ref t1), .val (.int p1), .val (.int ((Int32.ofNat n) - (1 : Int32))), .val (.int (p1 * (-1640531527 : Int32))), .val (.int xv)] [(.int xv), (.ref t1)])) rfl rfl (hb hby d4_23) _ ?_
        show Steps p.tables e below (s₁.setTop (mkF m 24 #[.val (.ref t1), .val (.int p1), .val (.int ((Int32.ofNat n) - (1 : Int32))), .val (.int (p1 * (-1640531527 : Int32))), .val (.int xv)] [(.int (own_G f1 xv))])) _
        refine XS.iconst X0.here hx rfl (hb hby d4_24) ?_
        exact kt
      by_cases hc192 : (own_G f1 xv) = (-1 : Int32)
      · have S193 : ∀ t, Steps p.tables e below (s₁.setTop (mkF m 49 #[.val (.ref t1), .val (.int p1), .val (.int ((Int32.ofNat n) - (1 : Int32))), .val (.int (p1 * (-1640531527 : Int32))), .val (.int xv)] [(.int xv)])) t → Steps p.tables e below (s₁.setTop (mkF m 25 #[.val (.ref t1), .val (.int p1), .val (.int ((Int32.ofNat n) - (1 : Int32))), .val (.int (p1 * (-1640531527 : Int32))), .val (.int xv)] [(.int (-1 : Int32)), (.int (own_G f1 xv))])) t := by
          intro t kt
          show Steps p.tables e below (s₁.setTop (mkF m 25 #[.val (.ref t1), .val (.int p1), .val (.int ((Int32.ofNat n) - (1 : Int32))), .val (.int (p1 * (-1640531527 : Int32))), .val (.int xv)] [(.int (-1 : Int32)), (.int (own_G f1 xv))])) _
          refine XS.icmpYes X0.here hx rfl (pc0 := 25) (pc' := 47) rfl (hb hby d4_25) rfl (teq hc192).1 (by decide) (by decide) ?_
          show Steps p.tables e below (s₁.setTop (mkF m 47 #[.val (.ref t1), .val (.int p1), .val (.int ((Int32.ofNat n) - (1 : Int32))), .val (.int (p1 * (-1640531527 : Int32))), .val (.int xv)] [])) _
          refine XS.iload X0.here hx rfl (hb hby d4_47) rfl ?_
          exact kt
        exact fun t k => (fun t k => (S191 t (S193 t k))) t k
      · have S194 : ∀ t, Steps p.tables e below (s₁.setTop (mkF m 33 #[.val (.ref t1), .val (.int p1), .val (.int ((Int32.ofNat n) - (1 : Int32))), .val (.int (p1 * (-1640531527 : Int32))), .val (.int xv)] [(.int p1), (.int (own_G f1 xv))])) t → Steps p.tables e below (s₁.setTop (mkF m 25 #[.val (.ref t1), .val (.int p1), .val (.int ((Int32.ofNat n) - (1 : Int32))), .val (.int (p1 * (-1640531527 : Int32))), .val (.int xv)] [(.int (-1 : Int32)), (.int (own_G f1 xv))])) t := by
          intro t kt
          show Steps p.tables e below (s₁.setTop (mkF m 25 #[.val (.ref t1), .val (.int p1), .val (.int ((Int32.ofNat n) - (1 : Int32))), .val (.int (p1 * (-1640531527 : Int32))), .val (.int xv)] [(.int (-1 : Int32)), (.int (own_G f1 xv))])) _
          refine XS.icmpNo X0.here hx rfl (hb hby d4_25) rfl (feq hc192).1 ?_
          show Steps p.tables e below (s₁.setTop (mkF m 28 #[.val (.ref t1), .val (.int p1), .val (.int ((Int32.ofNat n) - (1 : Int32))), .val (.int (p1 * (-1640531527 : Int32))), .val (.int xv)] [])) _
          refine XS.aloadN X0.here hx rfl (hb hby d4_28) rfl rfl ?_
          show Steps p.tables e below (s₁.setTop (mkF m 29 #[.val (.ref t1), .val (.int p1), .val (.int ((Int32.ofNat n) - (1 : Int32))), .val (.int (p1 * (-1640531527 : Int32))), .val (.int xv)] [(.ref t1)])) _
          refine XS.iload X0.here hx rfl (hb hby d4_29) rfl ?_
          show Steps p.tables e below (s₁.setTop (mkF m 31 #[.val (.ref t1), .val (.int p1), .val (.int ((Int32.ofNat n) - (1 : Int32))), .val (.int (p1 * (-1640531527 : Int32))), .val (.int xv)] [(.int xv), (.ref t1)])) _
          refine ArF.ldI X0 hx hZ e0 F190 (i := xv.toInt.toNat) hi.1 hi.2 (v := (own_G f1 xv)) rfl (g := (mkF m 31 #[.val (.ref t1), .val (.int p1), .val (.int ((Int32.ofNat n) - (1 : Int32))), .val (.int (p1 * (-1640531527 : Int32))), .val (.int xv)] [(.int xv), (.ref t1)])) rfl rfl (hb hby d4_31) _ ?_
          show Steps p.tables e below (s₁.setTop (mkF m 32 #[.val (.ref t1), .val (.int p1), .val (.int ((Int32.ofNat n) - (1 : Int32))), .val (.int (p1 * (-1640531527 : Int32))), .val (.int xv)] [(.int (own_G f1 xv))])) _
          refine XS.iloadN X0.here hx rfl (hb hby d4_32) rfl ?_
          exact kt
        by_cases hc195 : (own_G f1 xv) = p1
        · have S196 : ∀ t, Steps p.tables e below (s₁.setTop (mkF m 49 #[.val (.ref t1), .val (.int p1), .val (.int ((Int32.ofNat n) - (1 : Int32))), .val (.int (p1 * (-1640531527 : Int32))), .val (.int xv)] [(.int xv)])) t → Steps p.tables e below (s₁.setTop (mkF m 33 #[.val (.ref t1), .val (.int p1), .val (.int ((Int32.ofNat n) - (1 : Int32))), .val (.int (p1 * (-1640531527 : Int32))), .val (.int xv)] [(.int p1), (.int (own_G f1 xv))])) t := by
            intro t kt
            show Steps p.tables e below (s₁.setTop (mkF m 33 #[.val (.ref t1), .val (.int p1), .val (.int ((Int32.ofNat n) - (1 : Int32))), .val (.int (p1 * (-1640531527 : Int32))), .val (.int xv)] [(.int p1), (.int (own_G f1 xv))])) _
            refine XS.icmpYes X0.here hx rfl (pc0 := 33) (pc' := 47) rfl (hb hby d4_33) rfl (teq hc195).1 (by decide) (by decide) ?_
            show Steps p.tables e below (s₁.setTop (mkF m 47 #[.val (.ref t1), .val (.int p1), .val (.int ((Int32.ofNat n) - (1 : Int32))), .val (.int (p1 * (-1640531527 : Int32))), .val (.int xv)] [])) _
            refine XS.iload X0.here hx rfl (hb hby d4_47) rfl ?_
            exact kt
          exact fun t k => (fun t k => (S191 t (S194 t (S196 t k)))) t k
        · have S197 : ∀ t, Steps p.tables e below (s₁.setTop (mkF m 20 #[.val (.ref t1), .val (.int p1), .val (.int ((Int32.ofNat n) - (1 : Int32))), .val (.int (p1 * (-1640531527 : Int32))), .val (.int ((xv + (1 : Int32)) &&& ((Int32.ofNat n) - (1 : Int32))))] [])) t → Steps p.tables e below (s₁.setTop (mkF m 33 #[.val (.ref t1), .val (.int p1), .val (.int ((Int32.ofNat n) - (1 : Int32))), .val (.int (p1 * (-1640531527 : Int32))), .val (.int xv)] [(.int p1), (.int (own_G f1 xv))])) t := by
            intro t kt
            show Steps p.tables e below (s₁.setTop (mkF m 33 #[.val (.ref t1), .val (.int p1), .val (.int ((Int32.ofNat n) - (1 : Int32))), .val (.int (p1 * (-1640531527 : Int32))), .val (.int xv)] [(.int p1), (.int (own_G f1 xv))])) _
            refine XS.icmpNo X0.here hx rfl (hb hby d4_33) rfl (feq hc195).1 ?_
            show Steps p.tables e below (s₁.setTop (mkF m 36 #[.val (.ref t1), .val (.int p1), .val (.int ((Int32.ofNat n) - (1 : Int32))), .val (.int (p1 * (-1640531527 : Int32))), .val (.int xv)] [])) _
            refine XS.iload X0.here hx rfl (hb hby d4_36) rfl ?_
            show Steps p.tables e below (s₁.setTop (mkF m 38 #[.val (.ref t1), .val (.int p1), .val (.int ((Int32.ofNat n) - (1 : Int32))), .val (.int (p1 * (-1640531527 : Int32))), .val (.int xv)] [(.int xv)])) _
            refine XS.iconst X0.here hx rfl (hb hby d4_38) ?_
            show Steps p.tables e below (s₁.setTop (mkF m 39 #[.val (.ref t1), .val (.int p1), .val (.int ((Int32.ofNat n) - (1 : Int32))), .val (.int (p1 * (-1640531527 : Int32))), .val (.int xv)] [(.int (1 : Int32)), (.int xv)])) _
            refine XS.iadd X0.here hx rfl (hb hby d4_39) rfl ?_
            show Steps p.tables e below (s₁.setTop (mkF m 40 #[.val (.ref t1), .val (.int p1), .val (.int ((Int32.ofNat n) - (1 : Int32))), .val (.int (p1 * (-1640531527 : Int32))), .val (.int xv)] [(.int (xv + (1 : Int32)))])) _
            refine XS.iloadN X0.here hx rfl (hb hby d4_40) rfl ?_
            show Steps p.tables e below (s₁.setTop (mkF m 41 #[.val (.ref t1), .val (.int p1), .val (.int ((Int32.ofNat n) - (1 : Int32))), .val (.int (p1 * (-1640531527 : Int32))), .val (.int xv)] [(.int ((Int32.ofNat n) - (1 : Int32))), (.int (xv + (1 : Int32)))])) _
            refine XS.iand X0.here hx rfl (hb hby d4_41) rfl ?_
            show Steps p.tables e below (s₁.setTop (mkF m 42 #[.val (.ref t1), .val (.int p1), .val (.int ((Int32.ofNat n) - (1 : Int32))), .val (.int (p1 * (-1640531527 : Int32))), .val (.int xv)] [(.int ((xv + (1 : Int32)) &&& ((Int32.ofNat n) - (1 : Int32))))])) _
            refine XS.istore X0.here hx rfl (hb hby d4_42) rfl (l' := #[.val (.ref t1), .val (.int p1), .val (.int ((Int32.ofNat n) - (1 : Int32))), .val (.int (p1 * (-1640531527 : Int32))), .val (.int ((xv + (1 : Int32)) &&& ((Int32.ofNat n) - (1 : Int32))))]) rfl ?_
            show Steps p.tables e below (s₁.setTop (mkF m 44 #[.val (.ref t1), .val (.int p1), .val (.int ((Int32.ofNat n) - (1 : Int32))), .val (.int (p1 * (-1640531527 : Int32))), .val (.int ((xv + (1 : Int32)) &&& ((Int32.ofNat n) - (1 : Int32))))] [])) _
            refine XS.goto X0.here hx rfl (pc0 := 44) (pc' := 20) rfl (hb hby d4_44) (by decide) (by decide) ?_
            exact kt
          exfalso
          apply hst
          show own_stop (own_G f1 xv) p1 = 0
          unfold own_stop
          rw [if_neg hc192, if_neg hc195]
    | succ k ih =>
      intro xv hi hno hst
      have S198 : ∀ t, Steps p.tables e below (s₁.setTop (mkF m 25 #[.val (.ref t1), .val (.int p1), .val (.int ((Int32.ofNat n) - (1 : Int32))), .val (.int (p1 * (-1640531527 : Int32))), .val (.int xv)] [(.int (-1 : Int32)), (.int (own_G f1 xv))])) t → Steps p.tables e below (s₁.setTop (mkF m 20 #[.val (.ref t1), .val (.int p1), .val (.int ((Int32.ofNat n) - (1 : Int32))), .val (.int (p1 * (-1640531527 : Int32))), .val (.int xv)] [])) t := by
        intro t kt
        show Steps p.tables e below (s₁.setTop (mkF m 20 #[.val (.ref t1), .val (.int p1), .val (.int ((Int32.ofNat n) - (1 : Int32))), .val (.int (p1 * (-1640531527 : Int32))), .val (.int xv)] [])) _
        refine XS.aloadN X0.here hx rfl (hb hby d4_20) rfl rfl ?_
        show Steps p.tables e below (s₁.setTop (mkF m 21 #[.val (.ref t1), .val (.int p1), .val (.int ((Int32.ofNat n) - (1 : Int32))), .val (.int (p1 * (-1640531527 : Int32))), .val (.int xv)] [(.ref t1)])) _
        refine XS.iload X0.here hx rfl (hb hby d4_21) rfl ?_
        show Steps p.tables e below (s₁.setTop (mkF m 23 #[.val (.ref t1), .val (.int p1), .val (.int ((Int32.ofNat n) - (1 : Int32))), .val (.int (p1 * (-1640531527 : Int32))), .val (.int xv)] [(.int xv), (.ref t1)])) _
        refine ArF.ldI X0 hx hZ e0 F190 (i := xv.toInt.toNat) hi.1 hi.2 (v := (own_G f1 xv)) rfl (g := (mkF m 23 #[.val (.ref t1), .val (.int p1), .val (.int ((Int32.ofNat n) - (1 : Int32))), .val (.int (p1 * (-1640531527 : Int32))), .val (.int xv)] [(.int xv), (.ref t1)])) rfl rfl (hb hby d4_23) _ ?_
        show Steps p.tables e below (s₁.setTop (mkF m 24 #[.val (.ref t1), .val (.int p1), .val (.int ((Int32.ofNat n) - (1 : Int32))), .val (.int (p1 * (-1640531527 : Int32))), .val (.int xv)] [(.int (own_G f1 xv))])) _
        refine XS.iconst X0.here hx rfl (hb hby d4_24) ?_
        exact kt
      by_cases hc199 : (own_G f1 xv) = (-1 : Int32)
      · have S200 : ∀ t, Steps p.tables e below (s₁.setTop (mkF m 49 #[.val (.ref t1), .val (.int p1), .val (.int ((Int32.ofNat n) - (1 : Int32))), .val (.int (p1 * (-1640531527 : Int32))), .val (.int xv)] [(.int xv)])) t → Steps p.tables e below (s₁.setTop (mkF m 25 #[.val (.ref t1), .val (.int p1), .val (.int ((Int32.ofNat n) - (1 : Int32))), .val (.int (p1 * (-1640531527 : Int32))), .val (.int xv)] [(.int (-1 : Int32)), (.int (own_G f1 xv))])) t := by
          intro t kt
          show Steps p.tables e below (s₁.setTop (mkF m 25 #[.val (.ref t1), .val (.int p1), .val (.int ((Int32.ofNat n) - (1 : Int32))), .val (.int (p1 * (-1640531527 : Int32))), .val (.int xv)] [(.int (-1 : Int32)), (.int (own_G f1 xv))])) _
          refine XS.icmpYes X0.here hx rfl (pc0 := 25) (pc' := 47) rfl (hb hby d4_25) rfl (teq hc199).1 (by decide) (by decide) ?_
          show Steps p.tables e below (s₁.setTop (mkF m 47 #[.val (.ref t1), .val (.int p1), .val (.int ((Int32.ofNat n) - (1 : Int32))), .val (.int (p1 * (-1640531527 : Int32))), .val (.int xv)] [])) _
          refine XS.iload X0.here hx rfl (hb hby d4_47) rfl ?_
          exact kt
        exfalso
        have z : own_stop (own_G f1 xv) p1 = 0 := hno 0 (by omega)
        unfold own_stop at z
        rw [if_pos hc199] at z
        exact absurd z (by decide)
      · have S201 : ∀ t, Steps p.tables e below (s₁.setTop (mkF m 33 #[.val (.ref t1), .val (.int p1), .val (.int ((Int32.ofNat n) - (1 : Int32))), .val (.int (p1 * (-1640531527 : Int32))), .val (.int xv)] [(.int p1), (.int (own_G f1 xv))])) t → Steps p.tables e below (s₁.setTop (mkF m 25 #[.val (.ref t1), .val (.int p1), .val (.int ((Int32.ofNat n) - (1 : Int32))), .val (.int (p1 * (-1640531527 : Int32))), .val (.int xv)] [(.int (-1 : Int32)), (.int (own_G f1 xv))])) t := by
          intro t kt
          show Steps p.tables e below (s₁.setTop (mkF m 25 #[.val (.ref t1), .val (.int p1), .val (.int ((Int32.ofNat n) - (1 : Int32))), .val (.int (p1 * (-1640531527 : Int32))), .val (.int xv)] [(.int (-1 : Int32)), (.int (own_G f1 xv))])) _
          refine XS.icmpNo X0.here hx rfl (hb hby d4_25) rfl (feq hc199).1 ?_
          show Steps p.tables e below (s₁.setTop (mkF m 28 #[.val (.ref t1), .val (.int p1), .val (.int ((Int32.ofNat n) - (1 : Int32))), .val (.int (p1 * (-1640531527 : Int32))), .val (.int xv)] [])) _
          refine XS.aloadN X0.here hx rfl (hb hby d4_28) rfl rfl ?_
          show Steps p.tables e below (s₁.setTop (mkF m 29 #[.val (.ref t1), .val (.int p1), .val (.int ((Int32.ofNat n) - (1 : Int32))), .val (.int (p1 * (-1640531527 : Int32))), .val (.int xv)] [(.ref t1)])) _
          refine XS.iload X0.here hx rfl (hb hby d4_29) rfl ?_
          show Steps p.tables e below (s₁.setTop (mkF m 31 #[.val (.ref t1), .val (.int p1), .val (.int ((Int32.ofNat n) - (1 : Int32))), .val (.int (p1 * (-1640531527 : Int32))), .val (.int xv)] [(.int xv), (.ref t1)])) _
          refine ArF.ldI X0 hx hZ e0 F190 (i := xv.toInt.toNat) hi.1 hi.2 (v := (own_G f1 xv)) rfl (g := (mkF m 31 #[.val (.ref t1), .val (.int p1), .val (.int ((Int32.ofNat n) - (1 : Int32))), .val (.int (p1 * (-1640531527 : Int32))), .val (.int xv)] [(.int xv), (.ref t1)])) rfl rfl (hb hby d4_31) _ ?_
          show Steps p.tables e below (s₁.setTop (mkF m 32 #[.val (.ref t1), .val (.int p1), .val (.int ((Int32.ofNat n) - (1 : Int32))), .val (.int (p1 * (-1640531527 : Int32))), .val (.int xv)] [(.int (own_G f1 xv))])) _
          refine XS.iloadN X0.here hx rfl (hb hby d4_32) rfl ?_
          exact kt
        by_cases hc202 : (own_G f1 xv) = p1
        · have S203 : ∀ t, Steps p.tables e below (s₁.setTop (mkF m 49 #[.val (.ref t1), .val (.int p1), .val (.int ((Int32.ofNat n) - (1 : Int32))), .val (.int (p1 * (-1640531527 : Int32))), .val (.int xv)] [(.int xv)])) t → Steps p.tables e below (s₁.setTop (mkF m 33 #[.val (.ref t1), .val (.int p1), .val (.int ((Int32.ofNat n) - (1 : Int32))), .val (.int (p1 * (-1640531527 : Int32))), .val (.int xv)] [(.int p1), (.int (own_G f1 xv))])) t := by
            intro t kt
            show Steps p.tables e below (s₁.setTop (mkF m 33 #[.val (.ref t1), .val (.int p1), .val (.int ((Int32.ofNat n) - (1 : Int32))), .val (.int (p1 * (-1640531527 : Int32))), .val (.int xv)] [(.int p1), (.int (own_G f1 xv))])) _
            refine XS.icmpYes X0.here hx rfl (pc0 := 33) (pc' := 47) rfl (hb hby d4_33) rfl (teq hc202).1 (by decide) (by decide) ?_
            show Steps p.tables e below (s₁.setTop (mkF m 47 #[.val (.ref t1), .val (.int p1), .val (.int ((Int32.ofNat n) - (1 : Int32))), .val (.int (p1 * (-1640531527 : Int32))), .val (.int xv)] [])) _
            refine XS.iload X0.here hx rfl (hb hby d4_47) rfl ?_
            exact kt
          exfalso
          have z : own_stop (own_G f1 xv) p1 = 0 := hno 0 (by omega)
          unfold own_stop at z
          rw [if_neg hc199, if_pos hc202] at z
          exact absurd z (by decide)
        · have S204 : ∀ t, Steps p.tables e below (s₁.setTop (mkF m 20 #[.val (.ref t1), .val (.int p1), .val (.int ((Int32.ofNat n) - (1 : Int32))), .val (.int (p1 * (-1640531527 : Int32))), .val (.int ((xv + (1 : Int32)) &&& ((Int32.ofNat n) - (1 : Int32))))] [])) t → Steps p.tables e below (s₁.setTop (mkF m 33 #[.val (.ref t1), .val (.int p1), .val (.int ((Int32.ofNat n) - (1 : Int32))), .val (.int (p1 * (-1640531527 : Int32))), .val (.int xv)] [(.int p1), (.int (own_G f1 xv))])) t := by
            intro t kt
            show Steps p.tables e below (s₁.setTop (mkF m 33 #[.val (.ref t1), .val (.int p1), .val (.int ((Int32.ofNat n) - (1 : Int32))), .val (.int (p1 * (-1640531527 : Int32))), .val (.int xv)] [(.int p1), (.int (own_G f1 xv))])) _
            refine XS.icmpNo X0.here hx rfl (hb hby d4_33) rfl (feq hc202).1 ?_
            show Steps p.tables e below (s₁.setTop (mkF m 36 #[.val (.ref t1), .val (.int p1), .val (.int ((Int32.ofNat n) - (1 : Int32))), .val (.int (p1 * (-1640531527 : Int32))), .val (.int xv)] [])) _
            refine XS.iload X0.here hx rfl (hb hby d4_36) rfl ?_
            show Steps p.tables e below (s₁.setTop (mkF m 38 #[.val (.ref t1), .val (.int p1), .val (.int ((Int32.ofNat n) - (1 : Int32))), .val (.int (p1 * (-1640531527 : Int32))), .val (.int xv)] [(.int xv)])) _
            refine XS.iconst X0.here hx rfl (hb hby d4_38) ?_
            show Steps p.tables e below (s₁.setTop (mkF m 39 #[.val (.ref t1), .val (.int p1), .val (.int ((Int32.ofNat n) - (1 : Int32))), .val (.int (p1 * (-1640531527 : Int32))), .val (.int xv)] [(.int (1 : Int32)), (.int xv)])) _
            refine XS.iadd X0.here hx rfl (hb hby d4_39) rfl ?_
            show Steps p.tables e below (s₁.setTop (mkF m 40 #[.val (.ref t1), .val (.int p1), .val (.int ((Int32.ofNat n) - (1 : Int32))), .val (.int (p1 * (-1640531527 : Int32))), .val (.int xv)] [(.int (xv + (1 : Int32)))])) _
            refine XS.iloadN X0.here hx rfl (hb hby d4_40) rfl ?_
            show Steps p.tables e below (s₁.setTop (mkF m 41 #[.val (.ref t1), .val (.int p1), .val (.int ((Int32.ofNat n) - (1 : Int32))), .val (.int (p1 * (-1640531527 : Int32))), .val (.int xv)] [(.int ((Int32.ofNat n) - (1 : Int32))), (.int (xv + (1 : Int32)))])) _
            refine XS.iand X0.here hx rfl (hb hby d4_41) rfl ?_
            show Steps p.tables e below (s₁.setTop (mkF m 42 #[.val (.ref t1), .val (.int p1), .val (.int ((Int32.ofNat n) - (1 : Int32))), .val (.int (p1 * (-1640531527 : Int32))), .val (.int xv)] [(.int ((xv + (1 : Int32)) &&& ((Int32.ofNat n) - (1 : Int32))))])) _
            refine XS.istore X0.here hx rfl (hb hby d4_42) rfl (l' := #[.val (.ref t1), .val (.int p1), .val (.int ((Int32.ofNat n) - (1 : Int32))), .val (.int (p1 * (-1640531527 : Int32))), .val (.int ((xv + (1 : Int32)) &&& ((Int32.ofNat n) - (1 : Int32))))]) rfl ?_
            show Steps p.tables e below (s₁.setTop (mkF m 44 #[.val (.ref t1), .val (.int p1), .val (.int ((Int32.ofNat n) - (1 : Int32))), .val (.int (p1 * (-1640531527 : Int32))), .val (.int ((xv + (1 : Int32)) &&& ((Int32.ofNat n) - (1 : Int32))))] [])) _
            refine XS.goto X0.here hx rfl (pc0 := 44) (pc' := 20) rfl (hb hby d4_44) (by decide) (by decide) ?_
            exact kt
          exact fun t kt => (fun t k => (S198 t (S201 t (S204 t k)))) t (ih _ (own_mask_in _ hn) (fun j hj => hno (j + 1) (by omega)) hst t kt)
  have S205 : ∀ t, Steps p.tables e below (s₁.setTop (mkF m 20 #[.val (.ref t1), .val (.int p1), .val (.int ((Int32.ofNat n) - (1 : Int32))), .val (.int (p1 * (-1640531527 : Int32))), .val (.int (((p1 * (-1640531527 : Int32)) ^^^ (((p1 * (-1640531527 : Int32)).toUInt32 >>> ((16 : Int32) &&& 31).toUInt32).toInt32)) &&& ((Int32.ofNat n) - (1 : Int32))))] [])) t → Steps p.tables e below (s₁.setTop (mkF m 0 #[.val (.ref t1), .val (.int p1), .unset, .unset, .unset] [])) t := by
    intro t kt
    show Steps p.tables e below (s₁.setTop (mkF m 0 #[.val (.ref t1), .val (.int p1), .unset, .unset, .unset] [])) _
    refine XS.aloadN X0.here hx rfl (hb hby d4_0) rfl rfl ?_
    show Steps p.tables e below (s₁.setTop (mkF m 1 #[.val (.ref t1), .val (.int p1), .unset, .unset, .unset] [(.ref t1)])) _
    refine ArF.len X0 hx hZ e0 F190 (g := (mkF m 1 #[.val (.ref t1), .val (.int p1), .unset, .unset, .unset] [(.ref t1)])) rfl rfl (hb hby d4_1) _ ?_
    show Steps p.tables e below (s₁.setTop (mkF m 2 #[.val (.ref t1), .val (.int p1), .unset, .unset, .unset] [(.int (Int32.ofNat n))])) _
    refine XS.iconst X0.here hx rfl (hb hby d4_2) ?_
    show Steps p.tables e below (s₁.setTop (mkF m 3 #[.val (.ref t1), .val (.int p1), .unset, .unset, .unset] [(.int (1 : Int32)), (.int (Int32.ofNat n))])) _
    refine XS.isub X0.here hx rfl (hb hby d4_3) rfl ?_
    show Steps p.tables e below (s₁.setTop (mkF m 4 #[.val (.ref t1), .val (.int p1), .unset, .unset, .unset] [(.int ((Int32.ofNat n) - (1 : Int32)))])) _
    refine XS.istoreN X0.here hx rfl (hb hby d4_4) rfl (l' := #[.val (.ref t1), .val (.int p1), .val (.int ((Int32.ofNat n) - (1 : Int32))), .unset, .unset]) rfl ?_
    show Steps p.tables e below (s₁.setTop (mkF m 5 #[.val (.ref t1), .val (.int p1), .val (.int ((Int32.ofNat n) - (1 : Int32))), .unset, .unset] [])) _
    refine XS.iloadN X0.here hx rfl (hb hby d4_5) rfl ?_
    show Steps p.tables e below (s₁.setTop (mkF m 6 #[.val (.ref t1), .val (.int p1), .val (.int ((Int32.ofNat n) - (1 : Int32))), .unset, .unset] [(.int p1)])) _
    refine X0.ldcInt hx hown (mvT hZ (hw _ (List.mem_of_getElem? (i := 16) rfl))) (g := (mkF m 6 #[.val (.ref t1), .val (.int p1), .val (.int ((Int32.ofNat n) - (1 : Int32))), .unset, .unset] [(.int p1)])) rfl (hb hby d4_6) _ ?_
    show Steps p.tables e below (s₁.setTop (mkF m 8 #[.val (.ref t1), .val (.int p1), .val (.int ((Int32.ofNat n) - (1 : Int32))), .unset, .unset] [(.int (-1640531527 : Int32)), (.int p1)])) _
    refine XS.imul X0.here hx rfl (hb hby d4_8) rfl ?_
    show Steps p.tables e below (s₁.setTop (mkF m 9 #[.val (.ref t1), .val (.int p1), .val (.int ((Int32.ofNat n) - (1 : Int32))), .unset, .unset] [(.int (p1 * (-1640531527 : Int32)))])) _
    refine XS.istoreN X0.here hx rfl (hb hby d4_9) rfl (l' := #[.val (.ref t1), .val (.int p1), .val (.int ((Int32.ofNat n) - (1 : Int32))), .val (.int (p1 * (-1640531527 : Int32))), .unset]) rfl ?_
    show Steps p.tables e below (s₁.setTop (mkF m 10 #[.val (.ref t1), .val (.int p1), .val (.int ((Int32.ofNat n) - (1 : Int32))), .val (.int (p1 * (-1640531527 : Int32))), .unset] [])) _
    refine XS.iloadN X0.here hx rfl (hb hby d4_10) rfl ?_
    show Steps p.tables e below (s₁.setTop (mkF m 11 #[.val (.ref t1), .val (.int p1), .val (.int ((Int32.ofNat n) - (1 : Int32))), .val (.int (p1 * (-1640531527 : Int32))), .unset] [(.int (p1 * (-1640531527 : Int32)))])) _
    refine XS.iloadN X0.here hx rfl (hb hby d4_11) rfl ?_
    show Steps p.tables e below (s₁.setTop (mkF m 12 #[.val (.ref t1), .val (.int p1), .val (.int ((Int32.ofNat n) - (1 : Int32))), .val (.int (p1 * (-1640531527 : Int32))), .unset] [(.int (p1 * (-1640531527 : Int32))), (.int (p1 * (-1640531527 : Int32)))])) _
    refine XS.bipush X0.here hx rfl (hb hby d4_12) ?_
    show Steps p.tables e below (s₁.setTop (mkF m 14 #[.val (.ref t1), .val (.int p1), .val (.int ((Int32.ofNat n) - (1 : Int32))), .val (.int (p1 * (-1640531527 : Int32))), .unset] [(.int (16 : Int32)), (.int (p1 * (-1640531527 : Int32))), (.int (p1 * (-1640531527 : Int32)))])) _
    refine XS.iushr X0.here hx rfl (hb hby d4_14) rfl ?_
    show Steps p.tables e below (s₁.setTop (mkF m 15 #[.val (.ref t1), .val (.int p1), .val (.int ((Int32.ofNat n) - (1 : Int32))), .val (.int (p1 * (-1640531527 : Int32))), .unset] [(.int (((p1 * (-1640531527 : Int32)).toUInt32 >>> ((16 : Int32) &&& 31).toUInt32).toInt32)), (.int (p1 * (-1640531527 : Int32)))])) _
    refine XS.ixor X0.here hx rfl (hb hby d4_15) rfl ?_
    show Steps p.tables e below (s₁.setTop (mkF m 16 #[.val (.ref t1), .val (.int p1), .val (.int ((Int32.ofNat n) - (1 : Int32))), .val (.int (p1 * (-1640531527 : Int32))), .unset] [(.int ((p1 * (-1640531527 : Int32)) ^^^ (((p1 * (-1640531527 : Int32)).toUInt32 >>> ((16 : Int32) &&& 31).toUInt32).toInt32)))])) _
    refine XS.iloadN X0.here hx rfl (hb hby d4_16) rfl ?_
    show Steps p.tables e below (s₁.setTop (mkF m 17 #[.val (.ref t1), .val (.int p1), .val (.int ((Int32.ofNat n) - (1 : Int32))), .val (.int (p1 * (-1640531527 : Int32))), .unset] [(.int ((Int32.ofNat n) - (1 : Int32))), (.int ((p1 * (-1640531527 : Int32)) ^^^ (((p1 * (-1640531527 : Int32)).toUInt32 >>> ((16 : Int32) &&& 31).toUInt32).toInt32)))])) _
    refine XS.iand X0.here hx rfl (hb hby d4_17) rfl ?_
    show Steps p.tables e below (s₁.setTop (mkF m 18 #[.val (.ref t1), .val (.int p1), .val (.int ((Int32.ofNat n) - (1 : Int32))), .val (.int (p1 * (-1640531527 : Int32))), .unset] [(.int (((p1 * (-1640531527 : Int32)) ^^^ (((p1 * (-1640531527 : Int32)).toUInt32 >>> ((16 : Int32) &&& 31).toUInt32).toInt32)) &&& ((Int32.ofNat n) - (1 : Int32))))])) _
    refine XS.istore X0.here hx rfl (hb hby d4_18) rfl (l' := #[.val (.ref t1), .val (.int p1), .val (.int ((Int32.ofNat n) - (1 : Int32))), .val (.int (p1 * (-1640531527 : Int32))), .val (.int (((p1 * (-1640531527 : Int32)) ^^^ (((p1 * (-1640531527 : Int32)).toUInt32 >>> ((16 : Int32) &&& 31).toUInt32).toInt32)) &&& ((Int32.ofNat n) - (1 : Int32))))]) rfl ?_
    exact kt
  have C0 : ∀ t, Steps p.tables e below (s₁.setTop (mkF m 49 #[.val (.ref t1), .val (.int p1), .val (.int ((Int32.ofNat n) - (1 : Int32))), .val (.int (p1 * (-1640531527 : Int32))), .val (.int (own_it ((Int32.ofNat n) - (1 : Int32)) k ((own_hash p1) &&& ((Int32.ofNat n) - (1 : Int32)))))] [(.int (own_it ((Int32.ofNat n) - (1 : Int32)) k ((own_hash p1) &&& ((Int32.ofNat n) - (1 : Int32)))))])) t → Steps p.tables e below (s₁.setTop (mkF m 0 #[.val (.ref t1), .val (.int p1), .unset, .unset, .unset] [])) t := fun t kt => (fun t k => (S205 t k)) t (LP k _ (own_mask_in _ hn) hno hst t kt)
  have C206 : ∀ t, Steps p.tables e below (s₁.setTop (mkF m 49 #[.val (.ref t1), .val (.int p1), .val (.int ((Int32.ofNat n) - (1 : Int32))), .val (.int (p1 * (-1640531527 : Int32))), .val (.int (own_it ((Int32.ofNat n) - (1 : Int32)) k ((own_hash p1) &&& ((Int32.ofNat n) - (1 : Int32)))))] [(.int (own_it ((Int32.ofNat n) - (1 : Int32)) k ((own_hash p1) &&& ((Int32.ofNat n) - (1 : Int32)))))])) t → Steps p.tables e below (s₁.setTop (mkF m 0 #[.val (.ref t1), .val (.int p1), .unset, .unset, .unset] [])) t := (fun t k => (C0 t k))
  obtain ⟨fs, hr, hrun, hended, hW, hsame⟩ := X0.leave (v := some (.int (own_it ((Int32.ofNat n) - (1 : Int32)) k ((own_hash p1) &&& ((Int32.ofNat n) - (1 : Int32)))))) (fun h => by rw [Bd.returns] at h; cases h)
  refine ⟨_, _, pre0 _ (C206 _ ?_), hrun, hended, _, _, rfl, ?_, ⟨_, rfl⟩, hW, hsame.mono (by decide) (by decide)⟩
  · exact retOut X0 hx (t := .int) Bd.returns rfl (Or.inl ⟨rfl, Or.inl rfl, _, rfl⟩) (hb hby d4_49) hr
  · show Q_rm4 Z t1 p1 n k f1 h0 n0 _ s₁.heap _
    rw [e0]
    exact ⟨rfl, N0, rfl⟩

theorem own_r3 (s v : Int32) (h : v = (s &&& (2147483647 : Int32)) % (3 : Int32)) : v = 0 ∨ v = 1 ∨ v = 2 := by
  have m := own_mask32 s 2147483647 (by decide)
  have e3 : (3 : Int32).toInt = 3 := by decide
  have r : v.toInt = (s &&& (2147483647 : Int32)).toInt % 3 := by rw [h, Int32.toInt_mod, e3, Int.tmod_eq_emod_of_nonneg m.1]
  have q : v.toInt = 0 ∨ v.toInt = 1 ∨ v.toInt = 2 := by omega
  rcases q with q | q | q
  · exact Or.inl (Int32.toInt_inj.mp (by rw [q]; decide))
  · exact Or.inr (Or.inl (Int32.toInt_inj.mp (by rw [q]; decide)))
  · exact Or.inr (Or.inr (Int32.toInt_inj.mp (by rw [q]; decide)))
theorem own_code0 (i : Int32) : own_code 0 i = 0 := by
  unfold own_code
  have e : ((0 : Int32).toUInt32 >>> (((2 : Int32) * i) &&& 31).toUInt32) = 0 := by
    apply UInt32.toNat_inj.mp
    rw [UInt32.toNat_shiftRight, show (Int32.toUInt32 0).toNat = 0 by decide, Nat.zero_shiftRight]
    rfl
  rw [e]; decide
theorem own_home (p a b : Int32) (x : Int32) : ¬ own_stop (own_G (own_tab 0 p a b) x) p = 0 := by
  unfold own_G own_tab own_stop
  rw [own_code0]
  simp [own_val]
theorem ef_rm0 (m : MethodId) (x0 : Int32) (x1 : Int32) (x2 : Int32) (x3 : Int32) (x4 : Int32) : entryFrame m #[(.int x0), (.int x1), (.int x2), (.int x3), (.int x4)] maxLocals = mkF m 0 #[.val (.int x0), .val (.int x1), .val (.int x2), .val (.int x3), .val (.int x4), .unset, .unset, .unset, .unset, .unset, .unset] [] := by first | (simp [entryFrame, mkF, argsToLocals, Value.category, maxLocals]; done) | rfl
def Q_rm0 (Z : State) (p1 : Int32) (o1 : Int32) (a1 : Int32) (b1 : Int32) (s1 : Int32) (h0 : Heap) (n0 : Nat) (v : Option Value) (h : Heap) (L : List Loc) : Prop := v = some (.int 1) ∧ Fr n0 L
set_option maxRecDepth 65536 in
set_option maxHeartbeats 40000000 in
theorem rm0 (l : Launch) (Z : State) (a0 : Array Value) (hw : ∀ d ∈ tables_1, d.before a0 Z = true) (ws : List Jvm.Cond) (p1 : Int32) (o1 : Int32) (a1 : Int32) (b1 : Int32) (s1 : Int32) (h0 : Heap) (n0 : Nat) (Z0 : n0 ≤ h0.size)  :
    MetFree l x (head1 (Jvm.Cond.code x code maxLocals ret :: ws) room_1) (fun a U => a = #[(.int p1), (.int o1), (.int a1), (.int b1), (.int s1)] ∧ Z.Warmed39 U.vm ∧ U.heap = h0) (fun _ _ _ _ _ => True) (fun _ U o U' => ∃ v L, o = .returned v ∧ Q_rm0 Z p1 o1 a1 b1 s1 h0 n0 v U'.heap L ∧ FrameEnd U o U' L room_1.cells room_1.slots) := by
  refine MetFree.of_bodySF (plainFor_of_name pn_0) hisR ?_
  intro p e s m args below meth c s₁ Bd hml0 hP hK
  obtain ⟨rfl, hZ, hh⟩ := hP
  have hx := Bd.exec
  have hby := Bd.bytes
  have hml : c.maxLocals = 11 := hml0
  have hown : s.vm.findClass "com/example/bough3/bough3/model/PrincipalSlotsSlotOfPinLaw" = some m.cls := findClass_of_methodNamed Bd.named
  have hnm := (name_of_methodNamed Bd.named Bd.method).1
  have X0 : Stand p l e room_1 s m #[(.int p1), (.int o1), (.int a1), (.int b1), (.int s1)] below meth c s₁ [] 0 0 := Stand.of_body Bd
  have e0 : s₁.heap = h0 := by rw [← hh, Bd.state]; rfl
  have N0 := Fr.nil n0
  have pre0 : ∀ t, Steps p.tables e below (s₁.setTop (mkF m 0 #[.val (.int p1), .val (.int o1), .val (.int a1), .val (.int b1), .val (.int s1), .unset, .unset, .unset, .unset, .unset, .unset] [])) t → Steps p.tables e below (s₁.setTop (entryFrame m #[(.int p1), (.int o1), (.int a1), (.int b1), (.int s1)] maxLocals)) t := fun t k => castTop (ef_rm0 m p1 o1 a1 b1 s1) k
  have S208 : ∀ t, Steps p.tables e below (s₁.setTop (mkF m 8 #[.val (.int p1), .val (.int o1), .val (.int a1), .val (.int b1), .val (.int s1), .unset, .unset, .unset, .unset, .unset, .unset] [(.int ((s1 &&& (2147483647 : Int32)) % (3 : Int32))), (.int (2 : Int32))])) t → Steps p.tables e below (s₁.setTop (mkF m 0 #[.val (.int p1), .val (.int o1), .val (.int a1), .val (.int b1), .val (.int s1), .unset, .unset, .unset, .unset, .unset, .unset] [])) t := by
    intro t kt
    show Steps p.tables e below (s₁.setTop (mkF m 0 #[.val (.int p1), .val (.int o1), .val (.int a1), .val (.int b1), .val (.int s1), .unset, .unset, .unset, .unset, .unset, .unset] [])) _
    refine XS.iconst X0.here hx rfl (hb hby at_0) ?_
    show Steps p.tables e below (s₁.setTop (mkF m 1 #[.val (.int p1), .val (.int o1), .val (.int a1), .val (.int b1), .val (.int s1), .unset, .unset, .unset, .unset, .unset, .unset] [(.int (2 : Int32))])) _
    refine XS.iload X0.here hx rfl (hb hby at_1) rfl ?_
    show Steps p.tables e below (s₁.setTop (mkF m 3 #[.val (.int p1), .val (.int o1), .val (.int a1), .val (.int b1), .val (.int s1), .unset, .unset, .unset, .unset, .unset, .unset] [(.int s1), (.int (2 : Int32))])) _
    refine X0.ldcInt hx hown (mvT hZ (hw _ (List.mem_of_getElem? (i := 0) rfl))) (g := (mkF m 3 #[.val (.int p1), .val (.int o1), .val (.int a1), .val (.int b1), .val (.int s1), .unset, .unset, .unset, .unset, .unset, .unset] [(.int s1), (.int (2 : Int32))])) rfl (hb hby at_3) _ ?_
    show Steps p.tables e below (s₁.setTop (mkF m 5 #[.val (.int p1), .val (.int o1), .val (.int a1), .val (.int b1), .val (.int s1), .unset, .unset, .unset, .unset, .unset, .unset] [(.int (2147483647 : Int32)), (.int s1), (.int (2 : Int32))])) _
    refine XS.iand X0.here hx rfl (hb hby at_5) rfl ?_
    show Steps p.tables e below (s₁.setTop (mkF m 6 #[.val (.int p1), .val (.int o1), .val (.int a1), .val (.int b1), .val (.int s1), .unset, .unset, .unset, .unset, .unset, .unset] [(.int (s1 &&& (2147483647 : Int32))), (.int (2 : Int32))])) _
    refine XS.iconst X0.here hx rfl (hb hby at_6) ?_
    show Steps p.tables e below (s₁.setTop (mkF m 7 #[.val (.int p1), .val (.int o1), .val (.int a1), .val (.int b1), .val (.int s1), .unset, .unset, .unset, .unset, .unset, .unset] [(.int (3 : Int32)), (.int (s1 &&& (2147483647 : Int32))), (.int (2 : Int32))])) _
    refine iremM X0 hx rfl (hb hby at_7) rfl (by decide) ?_
    exact kt
  obtain ⟨v207, hv207⟩ : ∃ z : Int32, z = ((s1 &&& (2147483647 : Int32)) % (3 : Int32)) := ⟨_, rfl⟩
  have S209 : ∀ t, Steps p.tables e below (s₁.setTop (mkF m 8 #[.val (.int p1), .val (.int o1), .val (.int a1), .val (.int b1), .val (.int s1), .unset, .unset, .unset, .unset, .unset, .unset] [(.int v207), (.int (2 : Int32))])) t → Steps p.tables e below (s₁.setTop (mkF m 8 #[.val (.int p1), .val (.int o1), .val (.int a1), .val (.int b1), .val (.int s1), .unset, .unset, .unset, .unset, .unset, .unset] [(.int ((s1 &&& (2147483647 : Int32)) % (3 : Int32))), (.int (2 : Int32))])) t := fun t k => by rw [hv207.symm]; exact k
  have C210 : ∀ t, Steps p.tables e below (s₁.setTop (mkF m 8 #[.val (.int p1), .val (.int o1), .val (.int a1), .val (.int b1), .val (.int s1), .unset, .unset, .unset, .unset, .unset, .unset] [(.int v207), (.int (2 : Int32))])) t → Steps p.tables e below (s₁.setTop (mkF m 0 #[.val (.int p1), .val (.int o1), .val (.int a1), .val (.int b1), .val (.int s1), .unset, .unset, .unset, .unset, .unset, .unset] [])) t := (fun t k => (S208 t (S209 t k)))
  rcases own_r3 _ _ hv207 with qv207 | qv207 | qv207
  · have S211 : ∀ t, Steps p.tables e below (s₁.setTop (mkF m 8 #[.val (.int p1), .val (.int o1), .val (.int a1), .val (.int b1), .val (.int s1), .unset, .unset, .unset, .unset, .unset, .unset] [(.int (0 : Int32)), (.int (2 : Int32))])) t → Steps p.tables e below (s₁.setTop (mkF m 8 #[.val (.int p1), .val (.int o1), .val (.int a1), .val (.int b1), .val (.int s1), .unset, .unset, .unset, .unset, .unset, .unset] [(.int v207), (.int (2 : Int32))])) t := fun t k => by rw [qv207]; exact k
    have S212 : ∀ t, Steps p.tables e below (s₁.setTop (mkF m 9 #[.val (.int p1), .val (.int o1), .val (.int a1), .val (.int b1), .val (.int s1), .unset, .unset, .unset, .unset, .unset, .unset] [(.int ((2 : Int32) <<< ((0 : Int32) &&& 31)))])) t → Steps p.tables e below (s₁.setTop (mkF m 8 #[.val (.int p1), .val (.int o1), .val (.int a1), .val (.int b1), .val (.int s1), .unset, .unset, .unset, .unset, .unset, .unset] [(.int (0 : Int32)), (.int (2 : Int32))])) t := by
      intro t kt
      show Steps p.tables e below (s₁.setTop (mkF m 8 #[.val (.int p1), .val (.int o1), .val (.int a1), .val (.int b1), .val (.int s1), .unset, .unset, .unset, .unset, .unset, .unset] [(.int (0 : Int32)), (.int (2 : Int32))])) _
      refine XS.ishl X0.here hx rfl (hb hby at_8) rfl ?_
      exact kt
    have S213 : ∀ t, Steps p.tables e below (s₁.setTop (mkF m 9 #[.val (.int p1), .val (.int o1), .val (.int a1), .val (.int b1), .val (.int s1), .unset, .unset, .unset, .unset, .unset, .unset] [(.int (2 : Int32))])) t → Steps p.tables e below (s₁.setTop (mkF m 9 #[.val (.int p1), .val (.int o1), .val (.int a1), .val (.int b1), .val (.int s1), .unset, .unset, .unset, .unset, .unset, .unset] [(.int ((2 : Int32) <<< ((0 : Int32) &&& 31)))])) t := fun t k => by rw [(show ((2 : Int32) <<< ((0 : Int32) &&& 31)) = (2 : Int32) from by decide)]; exact k
    have hn : own_sz 2 := by unfold own_sz; omega
    have S216 : ∀ t, Steps p.tables e below (s₁.setTop (mkF m 17 #[.val (.int p1), .val (.int o1), .val (.int a1), .val (.int b1), .val (.int s1), .val (.int (2 : Int32)), .unset, .unset, .unset, .unset, .unset] [(.int b1), (.int a1), (.int p1), (.int (0 : Int32)), (.int (2 : Int32))])) t → Steps p.tables e below (s₁.setTop (mkF m 9 #[.val (.int p1), .val (.int o1), .val (.int a1), .val (.int b1), .val (.int s1), .unset, .unset, .unset, .unset, .unset, .unset] [(.int (2 : Int32))])) t := by
      intro t kt
      show Steps p.tables e below (s₁.setTop (mkF m 9 #[.val (.int p1), .val (.int o1), .val (.int a1), .val (.int b1), .val (.int s1), .unset, .unset, .unset, .unset, .unset, .unset] [(.int (2 : Int32))])) _
      refine XS.istore X0.here hx rfl (hb hby at_9) rfl (l' := #[.val (.int p1), .val (.int o1), .val (.int a1), .val (.int b1), .val (.int s1), .val (.int (2 : Int32)), .unset, .unset, .unset, .unset, .unset]) rfl ?_
      show Steps p.tables e below (s₁.setTop (mkF m 11 #[.val (.int p1), .val (.int o1), .val (.int a1), .val (.int b1), .val (.int s1), .val (.int (2 : Int32)), .unset, .unset, .unset, .unset, .unset] [])) _
      refine XS.iload X0.here hx rfl (hb hby at_11) rfl ?_
      show Steps p.tables e below (s₁.setTop (mkF m 13 #[.val (.int p1), .val (.int o1), .val (.int a1), .val (.int b1), .val (.int s1), .val (.int (2 : Int32)), .unset, .unset, .unset, .unset, .unset] [(.int (2 : Int32))])) _
      refine XS.iconst X0.here hx rfl (hb hby at_13) ?_
      show Steps p.tables e below (s₁.setTop (mkF m 14 #[.val (.int p1), .val (.int o1), .val (.int a1), .val (.int b1), .val (.int s1), .val (.int (2 : Int32)), .unset, .unset, .unset, .unset, .unset] [(.int (0 : Int32)), (.int (2 : Int32))])) _
      refine XS.iloadN X0.here hx rfl (hb hby at_14) rfl ?_
      show Steps p.tables e below (s₁.setTop (mkF m 15 #[.val (.int p1), .val (.int o1), .val (.int a1), .val (.int b1), .val (.int s1), .val (.int (2 : Int32)), .unset, .unset, .unset, .unset, .unset] [(.int p1), (.int (0 : Int32)), (.int (2 : Int32))])) _
      refine XS.iloadN X0.here hx rfl (hb hby at_15) rfl ?_
      show Steps p.tables e below (s₁.setTop (mkF m 16 #[.val (.int p1), .val (.int o1), .val (.int a1), .val (.int b1), .val (.int s1), .val (.int (2 : Int32)), .unset, .unset, .unset, .unset, .unset] [(.int a1), (.int p1), (.int (0 : Int32)), (.int (2 : Int32))])) _
      refine XS.iloadN X0.here hx rfl (hb hby at_16) rfl ?_
      exact kt
    obtain ⟨_, _, ⟨T217, L217, k217, n217⟩, -, X217, ⟨Lc217, hQ217, l217, y217, z217⟩, st217⟩ := Jvm.LawKit.callS X0 hx (y := (⟨"com/example/bough3/bough3/model/PrincipalSlotsSlotOfPinLaw", "table", "(IIIII)[I"⟩ : MethodName)) hown (mvT hZ (hw _ (List.mem_of_getElem? (i := 1) rfl))) (mvT hZ (hw _ (List.mem_of_getElem? (i := 2) rfl))) (mvT hZ (hw _ (List.mem_of_getElem? (i := 3) rfl))) (mvT hZ (hw _ (List.mem_of_getElem? (i := 4) rfl))) (by decide) (backOf (W := 0) (rm_t2 l Z a0 hw [] (0 : Int32) p1 a1 b1 h0 n0 Z0 ) hZ (hw _ (List.mem_of_getElem? (i := 4) rfl)) (hw _ (List.mem_of_getElem? (i := 3) rfl)) (by decide) (by decide)) (g := (mkF m 17 #[.val (.int p1), .val (.int o1), .val (.int a1), .val (.int b1), .val (.int s1), .val (.int (2 : Int32)), .unset, .unset, .unset, .unset, .unset] [(.int b1), (.int a1), (.int p1), (.int (0 : Int32)), (.int (2 : Int32))])) rfl (by rw [hml]; rfl) (argsL := [(.int (2 : Int32)), (.int (0 : Int32)), (.int p1), (.int a1), (.int b1)]) (rest := []) (lenOf pd_3 rfl) rfl (by show 2 * 0 + _ ≤ _; exact Nat.le_of_eq rfl) (hb hby at_17) (fun _ _ => ⟨rfl, e0, (by decide : 0 + 1 ≤ _), (by decide : 0 + 2 ≤ _)⟩)
    dsimp only [Pt.U, Pt.locs, Pt.cells, Pt.slots] at X217 l217 y217 z217 st217 hQ217
    subst l217 y217 z217
    obtain ⟨h217, e217⟩ : ∃ z, T217.heap = z := ⟨_, rfl⟩
    rw [e217] at hQ217
    obtain ⟨b214, rfl, N217q, K217q, hge215, F218⟩ := hQ217
    have z219 : n0 ≤ h217.size := Nat.le_trans Z0 K217q.1
    have N217 := Fr.app N0 N217q
    have S220 : ∀ t, Steps p.tables e below (T217.setTop (mkF m 25 #[.val (.int p1), .val (.int o1), .val (.int a1), .val (.int b1), .val (.int s1), .val (.int (2 : Int32)), .val (.ref b214), .unset, .unset, .unset, .unset] [(.int p1), (.ref b214)])) t → Steps p.tables e below (T217.setTop (mkF m 20 #[.val (.int p1), .val (.int o1), .val (.int a1), .val (.int b1), .val (.int s1), .val (.int (2 : Int32)), .unset, .unset, .unset, .unset, .unset] [(.ref b214)])) t := by
      intro t kt
      show Steps p.tables e below (T217.setTop (mkF m 20 #[.val (.int p1), .val (.int o1), .val (.int a1), .val (.int b1), .val (.int s1), .val (.int (2 : Int32)), .unset, .unset, .unset, .unset, .unset] [(.ref b214)])) _
      refine XS.astore X217.here hx rfl (hb hby at_20) rfl rfl (l' := #[.val (.int p1), .val (.int o1), .val (.int a1), .val (.int b1), .val (.int s1), .val (.int (2 : Int32)), .val (.ref b214), .unset, .unset, .unset, .unset]) rfl ?_
      show Steps p.tables e below (T217.setTop (mkF m 22 #[.val (.int p1), .val (.int o1), .val (.int a1), .val (.int b1), .val (.int s1), .val (.int (2 : Int32)), .val (.ref b214), .unset, .unset, .unset, .unset] [])) _
      refine XS.aload X217.here hx rfl (hb hby at_22) rfl rfl ?_
      show Steps p.tables e below (T217.setTop (mkF m 24 #[.val (.int p1), .val (.int o1), .val (.int a1), .val (.int b1), .val (.int s1), .val (.int (2 : Int32)), .val (.ref b214), .unset, .unset, .unset, .unset] [(.ref b214)])) _
      refine XS.iloadN X217.here hx rfl (hb hby at_24) rfl ?_
      exact kt
    obtain ⟨_, _, ⟨T221, L221, k221, n221⟩, -, X221, ⟨Lc221, hQ221, l221, y221, z221⟩, st221⟩ := Jvm.LawKit.callS X217 hx (y := (⟨"com/example/bough3/bough3/model/PrincipalSlots", "slotOf", "([II)I"⟩ : MethodName)) hown (mvT hZ (hw _ (List.mem_of_getElem? (i := 12) rfl))) (mvT hZ (hw _ (List.mem_of_getElem? (i := 13) rfl))) (mvT hZ (hw _ (List.mem_of_getElem? (i := 14) rfl))) (mvT hZ (hw _ (List.mem_of_getElem? (i := 15) rfl))) (by decide) (backOf (W := 0) (rm4 l Z a0 hw [] b214 p1 2 0 (own_tab (0 : Int32) p1 a1 b1) h217 n0 z219 F218 hn (fun j hj => absurd hj (Nat.not_lt_zero j)) (own_home p1 a1 b1 _)) hZ (hw _ (List.mem_of_getElem? (i := 15) rfl)) (hw _ (List.mem_of_getElem? (i := 14) rfl)) (by decide) (by decide)) (g := (mkF m 25 #[.val (.int p1), .val (.int o1), .val (.int a1), .val (.int b1), .val (.int s1), .val (.int (2 : Int32)), .val (.ref b214), .unset, .unset, .unset, .unset] [(.int p1), (.ref b214)])) rfl (by rw [hml]; rfl) (argsL := [(.ref b214), (.int p1)]) (rest := []) (lenOf pd_4 rfl) rfl (by show 2 * 0 + _ ≤ _; exact Nat.le_of_eq rfl) (hb hby at_25) (fun _ _ => ⟨rfl, e217, (by decide : 1 + 0 ≤ _), (by decide : 2 + 0 ≤ _)⟩)
    dsimp only [Pt.U, Pt.locs, Pt.cells, Pt.slots] at X221 l221 y221 z221 st221 hQ221
    subst l221 y221 z221
    obtain ⟨rfl, N221q, e221⟩ := hQ221
    have N221 := Fr.app N217 N221q
    have S222 : ∀ t, Steps p.tables e below (T221.setTop (mkF m 28 #[.val (.int p1), .val (.int o1), .val (.int a1), .val (.int b1), .val (.int s1), .val (.int (2 : Int32)), .val (.ref b214), .unset, .unset, .unset, .unset] [(.int ((own_hash p1) &&& ((Int32.ofNat 2) - (1 : Int32))))])) t → Steps p.tables e below (T221.setTop (mkF m 28 #[.val (.int p1), .val (.int o1), .val (.int a1), .val (.int b1), .val (.int s1), .val (.int (2 : Int32)), .val (.ref b214), .unset, .unset, .unset, .unset] [(.int (own_it ((Int32.ofNat 2) - (1 : Int32)) 0 ((own_hash p1) &&& ((Int32.ofNat 2) - (1 : Int32)))))])) t := fun t k => by rw [(show (own_it ((Int32.ofNat 2) - (1 : Int32)) 0 ((own_hash p1) &&& ((Int32.ofNat 2) - (1 : Int32)))) = ((own_hash p1) &&& ((Int32.ofNat 2) - (1 : Int32))) from rfl)]; exact k
    obtain ⟨v223, hv223⟩ : ∃ z : Int32, z = ((own_hash p1) &&& ((Int32.ofNat 2) - (1 : Int32))) := ⟨_, rfl⟩
    have S224 : ∀ t, Steps p.tables e below (T221.setTop (mkF m 28 #[.val (.int p1), .val (.int o1), .val (.int a1), .val (.int b1), .val (.int s1), .val (.int (2 : Int32)), .val (.ref b214), .unset, .unset, .unset, .unset] [(.int v223)])) t → Steps p.tables e below (T221.setTop (mkF m 28 #[.val (.int p1), .val (.int o1), .val (.int a1), .val (.int b1), .val (.int s1), .val (.int (2 : Int32)), .val (.ref b214), .unset, .unset, .unset, .unset] [(.int ((own_hash p1) &&& ((Int32.ofNat 2) - (1 : Int32))))])) t := fun t k => by rw [hv223.symm]; exact k
    have hh : 0 ≤ v223.toInt ∧ v223.toInt < (2 : Nat) := by rw [hv223]; have z := own_mask_in (own_hash p1) hn; omega
    have S227 : ∀ t, Steps p.tables e below (T221.setTop (mkF m 50 #[.val (.int p1), .val (.int o1), .val (.int a1), .val (.int b1), .val (.int s1), .val (.int (2 : Int32)), .val (.ref b214), .val (.int v223), .unset, .unset, .unset] [(.int b1), (.int a1), (.int p1), (.int o1), (.int (2 : Int32))])) t → Steps p.tables e below (T221.setTop (mkF m 28 #[.val (.int p1), .val (.int o1), .val (.int a1), .val (.int b1), .val (.int s1), .val (.int (2 : Int32)), .val (.ref b214), .unset, .unset, .unset, .unset] [(.int v223)])) t := by
      intro t kt
      show Steps p.tables e below (T221.setTop (mkF m 28 #[.val (.int p1), .val (.int o1), .val (.int a1), .val (.int b1), .val (.int s1), .val (.int (2 : Int32)), .val (.ref b214), .unset, .unset, .unset, .unset] [(.int v223)])) _
      refine XS.istore X221.here hx rfl (hb hby at_28) rfl (l' := #[.val (.int p1), .val (.int o1), .val (.int a1), .val (.int b1), .val (.int s1), .val (.int (2 : Int32)), .val (.ref b214), .val (.int v223), .unset, .unset, .unset]) rfl ?_
      show Steps p.tables e below (T221.setTop (mkF m 30 #[.val (.int p1), .val (.int o1), .val (.int a1), .val (.int b1), .val (.int s1), .val (.int (2 : Int32)), .val (.ref b214), .val (.int v223), .unset, .unset, .unset] [])) _
      refine XS.iload X221.here hx rfl (hb hby at_30) rfl ?_
      show Steps p.tables e below (T221.setTop (mkF m 32 #[.val (.int p1), .val (.int o1), .val (.int a1), .val (.int b1), .val (.int s1), .val (.int (2 : Int32)), .val (.ref b214), .val (.int v223), .unset, .unset, .unset] [(.int v223)])) _
      refine XS.ifNo X221.here hx rfl (hb hby at_32) rfl ((if0 _ _).trans (flt (by rw [Int32.lt_iff_toInt_lt, show (0 : Int32).toInt = 0 by decide]; omega)).1) ?_
      show Steps p.tables e below (T221.setTop (mkF m 35 #[.val (.int p1), .val (.int o1), .val (.int a1), .val (.int b1), .val (.int s1), .val (.int (2 : Int32)), .val (.ref b214), .val (.int v223), .unset, .unset, .unset] [])) _
      refine XS.iload X221.here hx rfl (hb hby at_35) rfl ?_
      show Steps p.tables e below (T221.setTop (mkF m 37 #[.val (.int p1), .val (.int o1), .val (.int a1), .val (.int b1), .val (.int s1), .val (.int (2 : Int32)), .val (.ref b214), .val (.int v223), .unset, .unset, .unset] [(.int v223)])) _
      refine XS.iload X221.here hx rfl (hb hby at_37) rfl ?_
      show Steps p.tables e below (T221.setTop (mkF m 39 #[.val (.int p1), .val (.int o1), .val (.int a1), .val (.int b1), .val (.int s1), .val (.int (2 : Int32)), .val (.ref b214), .val (.int v223), .unset, .unset, .unset] [(.int (2 : Int32)), (.int v223)])) _
      refine XS.icmpYes X221.here hx rfl (pc0 := 39) (pc' := 44) rfl (hb hby at_39) rfl (tlt (by rw [Int32.lt_iff_toInt_lt, show (2 : Int32).toInt = 2 by decide]; omega)).1 (by decide) (by decide) ?_
      show Steps p.tables e below (T221.setTop (mkF m 44 #[.val (.int p1), .val (.int o1), .val (.int a1), .val (.int b1), .val (.int s1), .val (.int (2 : Int32)), .val (.ref b214), .val (.int v223), .unset, .unset, .unset] [])) _
      refine XS.iload X221.here hx rfl (hb hby at_44) rfl ?_
      show Steps p.tables e below (T221.setTop (mkF m 46 #[.val (.int p1), .val (.int o1), .val (.int a1), .val (.int b1), .val (.int s1), .val (.int (2 : Int32)), .val (.ref b214), .val (.int v223), .unset, .unset, .unset] [(.int (2 : Int32))])) _
      refine XS.iloadN X221.here hx rfl (hb hby at_46) rfl ?_
      show Steps p.tables e below (T221.setTop (mkF m 47 #[.val (.int p1), .val (.int o1), .val (.int a1), .val (.int b1), .val (.int s1), .val (.int (2 : Int32)), .val (.ref b214), .val (.int v223), .unset, .unset, .unset] [(.int o1), (.int (2 : Int32))])) _
      refine XS.iloadN X221.here hx rfl (hb hby at_47) rfl ?_
      show Steps p.tables e below (T221.setTop (mkF m 48 #[.val (.int p1), .val (.int o1), .val (.int a1), .val (.int b1), .val (.int s1), .val (.int (2 : Int32)), .val (.ref b214), .val (.int v223), .unset, .unset, .unset] [(.int p1), (.int o1), (.int (2 : Int32))])) _
      refine XS.iloadN X221.here hx rfl (hb hby at_48) rfl ?_
      show Steps p.tables e below (T221.setTop (mkF m 49 #[.val (.int p1), .val (.int o1), .val (.int a1), .val (.int b1), .val (.int s1), .val (.int (2 : Int32)), .val (.ref b214), .val (.int v223), .unset, .unset, .unset] [(.int a1), (.int p1), (.int o1), (.int (2 : Int32))])) _
      refine XS.iloadN X221.here hx rfl (hb hby at_49) rfl ?_
      exact kt
    obtain ⟨_, _, ⟨T228, L228, k228, n228⟩, -, X228, ⟨Lc228, hQ228, l228, y228, z228⟩, st228⟩ := Jvm.LawKit.callS X221 hx (y := (⟨"com/example/bough3/bough3/model/PrincipalSlotsSlotOfPinLaw", "table", "(IIIII)[I"⟩ : MethodName)) hown (mvT hZ (hw _ (List.mem_of_getElem? (i := 1) rfl))) (mvT hZ (hw _ (List.mem_of_getElem? (i := 2) rfl))) (mvT hZ (hw _ (List.mem_of_getElem? (i := 3) rfl))) (mvT hZ (hw _ (List.mem_of_getElem? (i := 4) rfl))) (by decide) (backOf (W := 0) (rm_t2 l Z a0 hw [] o1 p1 a1 b1 h217 n0 z219 ) hZ (hw _ (List.mem_of_getElem? (i := 4) rfl)) (hw _ (List.mem_of_getElem? (i := 3) rfl)) (by decide) (by decide)) (g := (mkF m 50 #[.val (.int p1), .val (.int o1), .val (.int a1), .val (.int b1), .val (.int s1), .val (.int (2 : Int32)), .val (.ref b214), .val (.int v223), .unset, .unset, .unset] [(.int b1), (.int a1), (.int p1), (.int o1), (.int (2 : Int32))])) rfl (by rw [hml]; rfl) (argsL := [(.int (2 : Int32)), (.int o1), (.int p1), (.int a1), (.int b1)]) (rest := []) (lenOf pd_3 rfl) rfl (by show 2 * 0 + _ ≤ _; exact Nat.le_of_eq rfl) (hb hby at_50) (fun _ _ => ⟨rfl, e221, (by decide : 1 + 1 ≤ _), (by decide : 2 + 2 ≤ _)⟩)
    dsimp only [Pt.U, Pt.locs, Pt.cells, Pt.slots] at X228 l228 y228 z228 st228 hQ228
    subst l228 y228 z228
    obtain ⟨h228, e228⟩ : ∃ z, T228.heap = z := ⟨_, rfl⟩
    rw [e228] at hQ228
    obtain ⟨b225, rfl, N228q, K228q, hge226, F229⟩ := hQ228
    have z230 : n0 ≤ h228.size := Nat.le_trans z219 K228q.1
    have N228 := Fr.app N221 N228q
    have S231 : ∀ t, Steps p.tables e below (T228.setTop (mkF m 60 #[.val (.int p1), .val (.int o1), .val (.int a1), .val (.int b1), .val (.int s1), .val (.int (2 : Int32)), .val (.ref b214), .val (.int v223), .val (.ref b225), .unset, .unset] [(.int v223), (.int p1), (.ref b225)])) t → Steps p.tables e below (T228.setTop (mkF m 53 #[.val (.int p1), .val (.int o1), .val (.int a1), .val (.int b1), .val (.int s1), .val (.int (2 : Int32)), .val (.ref b214), .val (.int v223), .unset, .unset, .unset] [(.ref b225)])) t := by
      intro t kt
      show Steps p.tables e below (T228.setTop (mkF m 53 #[.val (.int p1), .val (.int o1), .val (.int a1), .val (.int b1), .val (.int s1), .val (.int (2 : Int32)), .val (.ref b214), .val (.int v223), .unset, .unset, .unset] [(.ref b225)])) _
      refine XS.astore X228.here hx rfl (hb hby at_53) rfl rfl (l' := #[.val (.int p1), .val (.int o1), .val (.int a1), .val (.int b1), .val (.int s1), .val (.int (2 : Int32)), .val (.ref b214), .val (.int v223), .val (.ref b225), .unset, .unset]) rfl ?_
      show Steps p.tables e below (T228.setTop (mkF m 55 #[.val (.int p1), .val (.int o1), .val (.int a1), .val (.int b1), .val (.int s1), .val (.int (2 : Int32)), .val (.ref b214), .val (.int v223), .val (.ref b225), .unset, .unset] [])) _
      refine XS.aload X228.here hx rfl (hb hby at_55) rfl rfl ?_
      show Steps p.tables e below (T228.setTop (mkF m 57 #[.val (.int p1), .val (.int o1), .val (.int a1), .val (.int b1), .val (.int s1), .val (.int (2 : Int32)), .val (.ref b214), .val (.int v223), .val (.ref b225), .unset, .unset] [(.ref b225)])) _
      refine XS.iloadN X228.here hx rfl (hb hby at_57) rfl ?_
      show Steps p.tables e below (T228.setTop (mkF m 58 #[.val (.int p1), .val (.int o1), .val (.int a1), .val (.int b1), .val (.int s1), .val (.int (2 : Int32)), .val (.ref b214), .val (.int v223), .val (.ref b225), .unset, .unset] [(.int p1), (.ref b225)])) _
      refine XS.iload X228.here hx rfl (hb hby at_58) rfl ?_
      exact kt
    obtain ⟨_, _, ⟨T232, L232, k232, n232⟩, -, X232, ⟨Lc232, hQ232, l232, y232, z232⟩, st232⟩ := Jvm.LawKit.callS X228 hx (y := (⟨"com/example/bough3/bough3/model/PrincipalSlotsSlotOfPinLaw", "firstFrom", "([III)I"⟩ : MethodName)) hown (mvT hZ (hw _ (List.mem_of_getElem? (i := 17) rfl))) (mvT hZ (hw _ (List.mem_of_getElem? (i := 18) rfl))) (mvT hZ (hw _ (List.mem_of_getElem? (i := 3) rfl))) (mvT hZ (hw _ (List.mem_of_getElem? (i := 19) rfl))) (by decide) (backOf (W := 0) (rm5 l Z a0 hw [] b225 p1 v223 2 (own_tab o1 p1 a1 b1) h228 n0 z230 F229 hn) hZ (hw _ (List.mem_of_getElem? (i := 19) rfl)) (hw _ (List.mem_of_getElem? (i := 3) rfl)) (by decide) (by decide)) (g := (mkF m 60 #[.val (.int p1), .val (.int o1), .val (.int a1), .val (.int b1), .val (.int s1), .val (.int (2 : Int32)), .val (.ref b214), .val (.int v223), .val (.ref b225), .unset, .unset] [(.int v223), (.int p1), (.ref b225)])) rfl (by rw [hml]; rfl) (argsL := [(.ref b225), (.int p1), (.int v223)]) (rest := []) (lenOf pd_5 rfl) rfl (by show 2 * 0 + _ ≤ _; exact Nat.le_of_eq rfl) (hb hby at_60) (fun _ _ => ⟨rfl, e228, (by decide : 2 + 0 ≤ _), (by decide : 4 + 0 ≤ _)⟩)
    dsimp only [Pt.U, Pt.locs, Pt.cells, Pt.slots] at X232 l232 y232 z232 st232 hQ232
    subst l232 y232 z232
    obtain ⟨rfl, N232q, e232⟩ := hQ232
    have N232 := Fr.app N228 N232q
    have S233 : ∀ t, Steps p.tables e below (T232.setTop (mkF m 67 #[.val (.int p1), .val (.int o1), .val (.int a1), .val (.int b1), .val (.int s1), .val (.int (2 : Int32)), .val (.ref b214), .val (.int v223), .val (.ref b225), .val (.int (own_ff (own_G (own_tab o1 p1 a1 b1)) v223 ((Int32.ofNat 2) - (1 : Int32)) p1)), .unset] [(.int (own_ff (own_G (own_tab o1 p1 a1 b1)) v223 ((Int32.ofNat 2) - (1 : Int32)) p1))])) t → Steps p.tables e below (T232.setTop (mkF m 63 #[.val (.int p1), .val (.int o1), .val (.int a1), .val (.int b1), .val (.int s1), .val (.int (2 : Int32)), .val (.ref b214), .val (.int v223), .val (.ref b225), .unset, .unset] [(.int (own_ff (own_G (own_tab o1 p1 a1 b1)) v223 ((Int32.ofNat 2) - (1 : Int32)) p1))])) t := by
      intro t kt
      show Steps p.tables e below (T232.setTop (mkF m 63 #[.val (.int p1), .val (.int o1), .val (.int a1), .val (.int b1), .val (.int s1), .val (.int (2 : Int32)), .val (.ref b214), .val (.int v223), .val (.ref b225), .unset, .unset] [(.int (own_ff (own_G (own_tab o1 p1 a1 b1)) v223 ((Int32.ofNat 2) - (1 : Int32)) p1))])) _
      refine XS.istore X232.here hx rfl (hb hby at_63) rfl (l' := #[.val (.int p1), .val (.int o1), .val (.int a1), .val (.int b1), .val (.int s1), .val (.int (2 : Int32)), .val (.ref b214), .val (.int v223), .val (.ref b225), .val (.int (own_ff (own_G (own_tab o1 p1 a1 b1)) v223 ((Int32.ofNat 2) - (1 : Int32)) p1)), .unset]) rfl ?_
      show Steps p.tables e below (T232.setTop (mkF m 65 #[.val (.int p1), .val (.int o1), .val (.int a1), .val (.int b1), .val (.int s1), .val (.int (2 : Int32)), .val (.ref b214), .val (.int v223), .val (.ref b225), .val (.int (own_ff (own_G (own_tab o1 p1 a1 b1)) v223 ((Int32.ofNat 2) - (1 : Int32)) p1)), .unset] [])) _
      refine XS.iload X232.here hx rfl (hb hby at_65) rfl ?_
      exact kt
    by_cases hc234 : (own_ff (own_G (own_tab o1 p1 a1 b1)) v223 ((Int32.ofNat 2) - (1 : Int32)) p1) < (0 : Int32)
    · have S235 : ∀ t, Steps p.tables e below (T232.setTop (mkF m 71 #[.val (.int p1), .val (.int o1), .val (.int a1), .val (.int b1), .val (.int s1), .val (.int (2 : Int32)), .val (.ref b214), .val (.int v223), .val (.ref b225), .val (.int (own_ff (own_G (own_tab o1 p1 a1 b1)) v223 ((Int32.ofNat 2) - (1 : Int32)) p1)), .unset] [(.int (1 : Int32))])) t → Steps p.tables e below (T232.setTop (mkF m 67 #[.val (.int p1), .val (.int o1), .val (.int a1), .val (.int b1), .val (.int s1), .val (.int (2 : Int32)), .val (.ref b214), .val (.int v223), .val (.ref b225), .val (.int (own_ff (own_G (own_tab o1 p1 a1 b1)) v223 ((Int32.ofNat 2) - (1 : Int32)) p1)), .unset] [(.int (own_ff (own_G (own_tab o1 p1 a1 b1)) v223 ((Int32.ofNat 2) - (1 : Int32)) p1))])) t := by
        intro t kt
        show Steps p.tables e below (T232.setTop (mkF m 67 #[.val (.int p1), .val (.int o1), .val (.int a1), .val (.int b1), .val (.int s1), .val (.int (2 : Int32)), .val (.ref b214), .val (.int v223), .val (.ref b225), .val (.int (own_ff (own_G (own_tab o1 p1 a1 b1)) v223 ((Int32.ofNat 2) - (1 : Int32)) p1)), .unset] [(.int (own_ff (own_G (own_tab o1 p1 a1 b1)) v223 ((Int32.ofNat 2) - (1 : Int32)) p1))])) _
        refine XS.ifNo X232.here hx rfl (hb hby at_67) rfl ((if0 _ _).trans (tlt hc234).2.1) ?_
        show Steps p.tables e below (T232.setTop (mkF m 70 #[.val (.int p1), .val (.int o1), .val (.int a1), .val (.int b1), .val (.int s1), .val (.int (2 : Int32)), .val (.ref b214), .val (.int v223), .val (.ref b225), .val (.int (own_ff (own_G (own_tab o1 p1 a1 b1)) v223 ((Int32.ofNat 2) - (1 : Int32)) p1)), .unset] [])) _
        refine XS.iconst X232.here hx rfl (hb hby at_70) ?_
        exact kt
      have C236 : ∀ t, Steps p.tables e below (T232.setTop (mkF m 71 #[.val (.int p1), .val (.int o1), .val (.int a1), .val (.int b1), .val (.int s1), .val (.int (2 : Int32)), .val (.ref b214), .val (.int v223), .val (.ref b225), .val (.int (own_ff (own_G (own_tab o1 p1 a1 b1)) v223 ((Int32.ofNat 2) - (1 : Int32)) p1)), .unset] [(.int (1 : Int32))])) t → Steps p.tables e below (s₁.setTop (mkF m 0 #[.val (.int p1), .val (.int o1), .val (.int a1), .val (.int b1), .val (.int s1), .unset, .unset, .unset, .unset, .unset, .unset] [])) t := (fun t k => (C210 t (S211 t (S212 t (S213 t (S216 t (st217 t (S220 t (st221 t (S222 t (S224 t (S227 t (st228 t (S231 t (st232 t (S233 t (S235 t k)))))))))))))))))
      obtain ⟨fs, hr, hrun, hended, hW, hsame⟩ := X232.leave (v := some (.int (1 : Int32))) (fun h => by rw [Bd.returns] at h; cases h)
      refine ⟨_, _, pre0 _ (C236 _ ?_), hrun, hended, _, _, rfl, ?_, ⟨_, rfl⟩, hW, hsame.mono (by decide) (by decide)⟩
      · exact retN X232 hx (t := .boolean) Bd.returns (by simp) (hb hby at_71) hr
      · show Q_rm0 Z p1 o1 a1 b1 s1 h0 n0 _ T232.heap _
        rw [e232]
        exact ⟨rfl, N232⟩
    · obtain ⟨k, hno, hst, hfe⟩ := own_found (own_G (own_tab o1 p1 a1 b1)) v223 p1 hn hh hc234
      rw [hv223] at hno hst
      have S237 : ∀ t, Steps p.tables e below (T232.setTop (mkF m 75 #[.val (.int p1), .val (.int o1), .val (.int a1), .val (.int b1), .val (.int s1), .val (.int (2 : Int32)), .val (.ref b214), .val (.int v223), .val (.ref b225), .val (.int (own_ff (own_G (own_tab o1 p1 a1 b1)) v223 ((Int32.ofNat 2) - (1 : Int32)) p1)), .unset] [(.int p1), (.ref b225)])) t → Steps p.tables e below (T232.setTop (mkF m 67 #[.val (.int p1), .val (.int o1), .val (.int a1), .val (.int b1), .val (.int s1), .val (.int (2 : Int32)), .val (.ref b214), .val (.int v223), .val (.ref b225), .val (.int (own_ff (own_G (own_tab o1 p1 a1 b1)) v223 ((Int32.ofNat 2) - (1 : Int32)) p1)), .unset] [(.int (own_ff (own_G (own_tab o1 p1 a1 b1)) v223 ((Int32.ofNat 2) - (1 : Int32)) p1))])) t := by
        intro t kt
        show Steps p.tables e below (T232.setTop (mkF m 67 #[.val (.int p1), .val (.int o1), .val (.int a1), .val (.int b1), .val (.int s1), .val (.int (2 : Int32)), .val (.ref b214), .val (.int v223), .val (.ref b225), .val (.int (own_ff (own_G (own_tab o1 p1 a1 b1)) v223 ((Int32.ofNat 2) - (1 : Int32)) p1)), .unset] [(.int (own_ff (own_G (own_tab o1 p1 a1 b1)) v223 ((Int32.ofNat 2) - (1 : Int32)) p1))])) _
        refine XS.ifYes X232.here hx rfl (pc0 := 67) (pc' := 72) rfl (hb hby at_67) rfl ((if0 _ _).trans (flt hc234).2.1) (by decide) (by decide) ?_
        show Steps p.tables e below (T232.setTop (mkF m 72 #[.val (.int p1), .val (.int o1), .val (.int a1), .val (.int b1), .val (.int s1), .val (.int (2 : Int32)), .val (.ref b214), .val (.int v223), .val (.ref b225), .val (.int (own_ff (own_G (own_tab o1 p1 a1 b1)) v223 ((Int32.ofNat 2) - (1 : Int32)) p1)), .unset] [])) _
        refine XS.aload X232.here hx rfl (hb hby at_72) rfl rfl ?_
        show Steps p.tables e below (T232.setTop (mkF m 74 #[.val (.int p1), .val (.int o1), .val (.int a1), .val (.int b1), .val (.int s1), .val (.int (2 : Int32)), .val (.ref b214), .val (.int v223), .val (.ref b225), .val (.int (own_ff (own_G (own_tab o1 p1 a1 b1)) v223 ((Int32.ofNat 2) - (1 : Int32)) p1)), .unset] [(.ref b225)])) _
        refine XS.iloadN X232.here hx rfl (hb hby at_74) rfl ?_
        exact kt
      obtain ⟨_, _, ⟨T238, L238, k238, n238⟩, -, X238, ⟨Lc238, hQ238, l238, y238, z238⟩, st238⟩ := Jvm.LawKit.callS X232 hx (y := (⟨"com/example/bough3/bough3/model/PrincipalSlots", "slotOf", "([II)I"⟩ : MethodName)) hown (mvT hZ (hw _ (List.mem_of_getElem? (i := 12) rfl))) (mvT hZ (hw _ (List.mem_of_getElem? (i := 13) rfl))) (mvT hZ (hw _ (List.mem_of_getElem? (i := 14) rfl))) (mvT hZ (hw _ (List.mem_of_getElem? (i := 15) rfl))) (by decide) (backOf (W := 0) (rm4 l Z a0 hw [] b225 p1 2 k (own_tab o1 p1 a1 b1) h228 n0 z230 F229 hn hno hst) hZ (hw _ (List.mem_of_getElem? (i := 15) rfl)) (hw _ (List.mem_of_getElem? (i := 14) rfl)) (by decide) (by decide)) (g := (mkF m 75 #[.val (.int p1), .val (.int o1), .val (.int a1), .val (.int b1), .val (.int s1), .val (.int (2 : Int32)), .val (.ref b214), .val (.int v223), .val (.ref b225), .val (.int (own_ff (own_G (own_tab o1 p1 a1 b1)) v223 ((Int32.ofNat 2) - (1 : Int32)) p1)), .unset] [(.int p1), (.ref b225)])) rfl (by rw [hml]; rfl) (argsL := [(.ref b225), (.int p1)]) (rest := []) (lenOf pd_4 rfl) rfl (by show 2 * 0 + _ ≤ _; exact Nat.le_of_eq rfl) (hb hby at_75) (fun _ _ => ⟨rfl, e232, (by decide : 2 + 0 ≤ _), (by decide : 4 + 0 ≤ _)⟩)
      dsimp only [Pt.U, Pt.locs, Pt.cells, Pt.slots] at X238 l238 y238 z238 st238 hQ238
      subst l238 y238 z238
      obtain ⟨rfl, N238q, e238⟩ := hQ238
      have N238 := Fr.app N232 N238q
      have S239 : ∀ t, Steps p.tables e below (T238.setTop (mkF m 92 #[.val (.int p1), .val (.int o1), .val (.int a1), .val (.int b1), .val (.int s1), .val (.int (2 : Int32)), .val (.ref b214), .val (.int v223), .val (.ref b225), .val (.int (own_ff (own_G (own_tab o1 p1 a1 b1)) v223 ((Int32.ofNat 2) - (1 : Int32)) p1)), .val (.int (own_it ((Int32.ofNat 2) - (1 : Int32)) k ((own_hash p1) &&& ((Int32.ofNat 2) - (1 : Int32)))))] [(.int (1 : Int32))])) t → Steps p.tables e below (T238.setTop (mkF m 78 #[.val (.int p1), .val (.int o1), .val (.int a1), .val (.int b1), .val (.int s1), .val (.int (2 : Int32)), .val (.ref b214), .val (.int v223), .val (.ref b225), .val (.int (own_ff (own_G (own_tab o1 p1 a1 b1)) v223 ((Int32.ofNat 2) - (1 : Int32)) p1)), .unset] [(.int (own_it ((Int32.ofNat 2) - (1 : Int32)) k ((own_hash p1) &&& ((Int32.ofNat 2) - (1 : Int32)))))])) t := by
        intro t kt
        show Steps p.tables e below (T238.setTop (mkF m 78 #[.val (.int p1), .val (.int o1), .val (.int a1), .val (.int b1), .val (.int s1), .val (.int (2 : Int32)), .val (.ref b214), .val (.int v223), .val (.ref b225), .val (.int (own_ff (own_G (own_tab o1 p1 a1 b1)) v223 ((Int32.ofNat 2) - (1 : Int32)) p1)), .unset] [(.int (own_it ((Int32.ofNat 2) - (1 : Int32)) k ((own_hash p1) &&& ((Int32.ofNat 2) - (1 : Int32)))))])) _
        refine XS.istore X238.here hx rfl (hb hby at_78) rfl (l' := #[.val (.int p1), .val (.int o1), .val (.int a1), .val (.int b1), .val (.int s1), .val (.int (2 : Int32)), .val (.ref b214), .val (.int v223), .val (.ref b225), .val (.int (own_ff (own_G (own_tab o1 p1 a1 b1)) v223 ((Int32.ofNat 2) - (1 : Int32)) p1)), .val (.int (own_it ((Int32.ofNat 2) - (1 : Int32)) k ((own_hash p1) &&& ((Int32.ofNat 2) - (1 : Int32)))))]) rfl ?_
        show Steps p.tables e below (T238.setTop (mkF m 80 #[.val (.int p1), .val (.int o1), .val (.int a1), .val (.int b1), .val (.int s1), .val (.int (2 : Int32)), .val (.ref b214), .val (.int v223), .val (.ref b225), .val (.int (own_ff (own_G (own_tab o1 p1 a1 b1)) v223 ((Int32.ofNat 2) - (1 : Int32)) p1)), .val (.int (own_it ((Int32.ofNat 2) - (1 : Int32)) k ((own_hash p1) &&& ((Int32.ofNat 2) - (1 : Int32)))))] [])) _
        refine XS.iload X238.here hx rfl (hb hby at_80) rfl ?_
        show Steps p.tables e below (T238.setTop (mkF m 82 #[.val (.int p1), .val (.int o1), .val (.int a1), .val (.int b1), .val (.int s1), .val (.int (2 : Int32)), .val (.ref b214), .val (.int v223), .val (.ref b225), .val (.int (own_ff (own_G (own_tab o1 p1 a1 b1)) v223 ((Int32.ofNat 2) - (1 : Int32)) p1)), .val (.int (own_it ((Int32.ofNat 2) - (1 : Int32)) k ((own_hash p1) &&& ((Int32.ofNat 2) - (1 : Int32)))))] [(.int (own_it ((Int32.ofNat 2) - (1 : Int32)) k ((own_hash p1) &&& ((Int32.ofNat 2) - (1 : Int32)))))])) _
        refine XS.iload X238.here hx rfl (hb hby at_82) rfl ?_
        show Steps p.tables e below (T238.setTop (mkF m 84 #[.val (.int p1), .val (.int o1), .val (.int a1), .val (.int b1), .val (.int s1), .val (.int (2 : Int32)), .val (.ref b214), .val (.int v223), .val (.ref b225), .val (.int (own_ff (own_G (own_tab o1 p1 a1 b1)) v223 ((Int32.ofNat 2) - (1 : Int32)) p1)), .val (.int (own_it ((Int32.ofNat 2) - (1 : Int32)) k ((own_hash p1) &&& ((Int32.ofNat 2) - (1 : Int32)))))] [(.int (own_ff (own_G (own_tab o1 p1 a1 b1)) v223 ((Int32.ofNat 2) - (1 : Int32)) p1)), (.int (own_it ((Int32.ofNat 2) - (1 : Int32)) k ((own_hash p1) &&& ((Int32.ofNat 2) - (1 : Int32)))))])) _
        refine XS.icmpNo X238.here hx rfl (hb hby at_84) rfl (teq (show (own_it ((Int32.ofNat 2) - (1 : Int32)) k ((own_hash p1) &&& ((Int32.ofNat 2) - (1 : Int32)))) = (own_ff (own_G (own_tab o1 p1 a1 b1)) v223 ((Int32.ofNat 2) - (1 : Int32)) p1) from by rw [hfe, hv223])).2 ?_
        show Steps p.tables e below (T238.setTop (mkF m 87 #[.val (.int p1), .val (.int o1), .val (.int a1), .val (.int b1), .val (.int s1), .val (.int (2 : Int32)), .val (.ref b214), .val (.int v223), .val (.ref b225), .val (.int (own_ff (own_G (own_tab o1 p1 a1 b1)) v223 ((Int32.ofNat 2) - (1 : Int32)) p1)), .val (.int (own_it ((Int32.ofNat 2) - (1 : Int32)) k ((own_hash p1) &&& ((Int32.ofNat 2) - (1 : Int32)))))] [])) _
        refine XS.iconst X238.here hx rfl (hb hby at_87) ?_
        show Steps p.tables e below (T238.setTop (mkF m 88 #[.val (.int p1), .val (.int o1), .val (.int a1), .val (.int b1), .val (.int s1), .val (.int (2 : Int32)), .val (.ref b214), .val (.int v223), .val (.ref b225), .val (.int (own_ff (own_G (own_tab o1 p1 a1 b1)) v223 ((Int32.ofNat 2) - (1 : Int32)) p1)), .val (.int (own_it ((Int32.ofNat 2) - (1 : Int32)) k ((own_hash p1) &&& ((Int32.ofNat 2) - (1 : Int32)))))] [(.int (1 : Int32))])) _
        refine XS.goto X238.here hx rfl (pc0 := 88) (pc' := 92) rfl (hb hby at_88) (by decide) (by decide) ?_
        exact kt
      have C240 : ∀ t, Steps p.tables e below (T238.setTop (mkF m 92 #[.val (.int p1), .val (.int o1), .val (.int a1), .val (.int b1), .val (.int s1), .val (.int (2 : Int32)), .val (.ref b214), .val (.int v223), .val (.ref b225), .val (.int (own_ff (own_G (own_tab o1 p1 a1 b1)) v223 ((Int32.ofNat 2) - (1 : Int32)) p1)), .val (.int (own_it ((Int32.ofNat 2) - (1 : Int32)) k ((own_hash p1) &&& ((Int32.ofNat 2) - (1 : Int32)))))] [(.int (1 : Int32))])) t → Steps p.tables e below (s₁.setTop (mkF m 0 #[.val (.int p1), .val (.int o1), .val (.int a1), .val (.int b1), .val (.int s1), .unset, .unset, .unset, .unset, .unset, .unset] [])) t := (fun t k => (C210 t (S211 t (S212 t (S213 t (S216 t (st217 t (S220 t (st221 t (S222 t (S224 t (S227 t (st228 t (S231 t (st232 t (S233 t (S237 t (st238 t (S239 t k)))))))))))))))))))
      obtain ⟨fs, hr, hrun, hended, hW, hsame⟩ := X238.leave (v := some (.int (1 : Int32))) (fun h => by rw [Bd.returns] at h; cases h)
      refine ⟨_, _, pre0 _ (C240 _ ?_), hrun, hended, _, _, rfl, ?_, ⟨_, rfl⟩, hW, hsame.mono (by decide) (by decide)⟩
      · exact retN X238 hx (t := .boolean) Bd.returns (by simp) (hb hby at_92) hr
      · show Q_rm0 Z p1 o1 a1 b1 s1 h0 n0 _ T238.heap _
        rw [e238]
        exact ⟨rfl, N238⟩
  · have S241 : ∀ t, Steps p.tables e below (s₁.setTop (mkF m 8 #[.val (.int p1), .val (.int o1), .val (.int a1), .val (.int b1), .val (.int s1), .unset, .unset, .unset, .unset, .unset, .unset] [(.int (1 : Int32)), (.int (2 : Int32))])) t → Steps p.tables e below (s₁.setTop (mkF m 8 #[.val (.int p1), .val (.int o1), .val (.int a1), .val (.int b1), .val (.int s1), .unset, .unset, .unset, .unset, .unset, .unset] [(.int v207), (.int (2 : Int32))])) t := fun t k => by rw [qv207]; exact k
    have S242 : ∀ t, Steps p.tables e below (s₁.setTop (mkF m 9 #[.val (.int p1), .val (.int o1), .val (.int a1), .val (.int b1), .val (.int s1), .unset, .unset, .unset, .unset, .unset, .unset] [(.int ((2 : Int32) <<< ((1 : Int32) &&& 31)))])) t → Steps p.tables e below (s₁.setTop (mkF m 8 #[.val (.int p1), .val (.int o1), .val (.int a1), .val (.int b1), .val (.int s1), .unset, .unset, .unset, .unset, .unset, .unset] [(.int (1 : Int32)), (.int (2 : Int32))])) t := by
      intro t kt
      show Steps p.tables e below (s₁.setTop (mkF m 8 #[.val (.int p1), .val (.int o1), .val (.int a1), .val (.int b1), .val (.int s1), .unset, .unset, .unset, .unset, .unset, .unset] [(.int (1 : Int32)), (.int (2 : Int32))])) _
      refine XS.ishl X0.here hx rfl (hb hby at_8) rfl ?_
      exact kt
    have S243 : ∀ t, Steps p.tables e below (s₁.setTop (mkF m 9 #[.val (.int p1), .val (.int o1), .val (.int a1), .val (.int b1), .val (.int s1), .unset, .unset, .unset, .unset, .unset, .unset] [(.int (4 : Int32))])) t → Steps p.tables e below (s₁.setTop (mkF m 9 #[.val (.int p1), .val (.int o1), .val (.int a1), .val (.int b1), .val (.int s1), .unset, .unset, .unset, .unset, .unset, .unset] [(.int ((2 : Int32) <<< ((1 : Int32) &&& 31)))])) t := fun t k => by rw [(show ((2 : Int32) <<< ((1 : Int32) &&& 31)) = (4 : Int32) from by decide)]; exact k
    have hn : own_sz 4 := by unfold own_sz; omega
    have S246 : ∀ t, Steps p.tables e below (s₁.setTop (mkF m 17 #[.val (.int p1), .val (.int o1), .val (.int a1), .val (.int b1), .val (.int s1), .val (.int (4 : Int32)), .unset, .unset, .unset, .unset, .unset] [(.int b1), (.int a1), (.int p1), (.int (0 : Int32)), (.int (4 : Int32))])) t → Steps p.tables e below (s₁.setTop (mkF m 9 #[.val (.int p1), .val (.int o1), .val (.int a1), .val (.int b1), .val (.int s1), .unset, .unset, .unset, .unset, .unset, .unset] [(.int (4 : Int32))])) t := by
      intro t kt
      show Steps p.tables e below (s₁.setTop (mkF m 9 #[.val (.int p1), .val (.int o1), .val (.int a1), .val (.int b1), .val (.int s1), .unset, .unset, .unset, .unset, .unset, .unset] [(.int (4 : Int32))])) _
      refine XS.istore X0.here hx rfl (hb hby at_9) rfl (l' := #[.val (.int p1), .val (.int o1), .val (.int a1), .val (.int b1), .val (.int s1), .val (.int (4 : Int32)), .unset, .unset, .unset, .unset, .unset]) rfl ?_
      show Steps p.tables e below (s₁.setTop (mkF m 11 #[.val (.int p1), .val (.int o1), .val (.int a1), .val (.int b1), .val (.int s1), .val (.int (4 : Int32)), .unset, .unset, .unset, .unset, .unset] [])) _
      refine XS.iload X0.here hx rfl (hb hby at_11) rfl ?_
      show Steps p.tables e below (s₁.setTop (mkF m 13 #[.val (.int p1), .val (.int o1), .val (.int a1), .val (.int b1), .val (.int s1), .val (.int (4 : Int32)), .unset, .unset, .unset, .unset, .unset] [(.int (4 : Int32))])) _
      refine XS.iconst X0.here hx rfl (hb hby at_13) ?_
      show Steps p.tables e below (s₁.setTop (mkF m 14 #[.val (.int p1), .val (.int o1), .val (.int a1), .val (.int b1), .val (.int s1), .val (.int (4 : Int32)), .unset, .unset, .unset, .unset, .unset] [(.int (0 : Int32)), (.int (4 : Int32))])) _
      refine XS.iloadN X0.here hx rfl (hb hby at_14) rfl ?_
      show Steps p.tables e below (s₁.setTop (mkF m 15 #[.val (.int p1), .val (.int o1), .val (.int a1), .val (.int b1), .val (.int s1), .val (.int (4 : Int32)), .unset, .unset, .unset, .unset, .unset] [(.int p1), (.int (0 : Int32)), (.int (4 : Int32))])) _
      refine XS.iloadN X0.here hx rfl (hb hby at_15) rfl ?_
      show Steps p.tables e below (s₁.setTop (mkF m 16 #[.val (.int p1), .val (.int o1), .val (.int a1), .val (.int b1), .val (.int s1), .val (.int (4 : Int32)), .unset, .unset, .unset, .unset, .unset] [(.int a1), (.int p1), (.int (0 : Int32)), (.int (4 : Int32))])) _
      refine XS.iloadN X0.here hx rfl (hb hby at_16) rfl ?_
      exact kt
    obtain ⟨_, _, ⟨T247, L247, k247, n247⟩, -, X247, ⟨Lc247, hQ247, l247, y247, z247⟩, st247⟩ := Jvm.LawKit.callS X0 hx (y := (⟨"com/example/bough3/bough3/model/PrincipalSlotsSlotOfPinLaw", "table", "(IIIII)[I"⟩ : MethodName)) hown (mvT hZ (hw _ (List.mem_of_getElem? (i := 1) rfl))) (mvT hZ (hw _ (List.mem_of_getElem? (i := 2) rfl))) (mvT hZ (hw _ (List.mem_of_getElem? (i := 3) rfl))) (mvT hZ (hw _ (List.mem_of_getElem? (i := 4) rfl))) (by decide) (backOf (W := 0) (rm_t4 l Z a0 hw [] (0 : Int32) p1 a1 b1 h0 n0 Z0 ) hZ (hw _ (List.mem_of_getElem? (i := 4) rfl)) (hw _ (List.mem_of_getElem? (i := 3) rfl)) (by decide) (by decide)) (g := (mkF m 17 #[.val (.int p1), .val (.int o1), .val (.int a1), .val (.int b1), .val (.int s1), .val (.int (4 : Int32)), .unset, .unset, .unset, .unset, .unset] [(.int b1), (.int a1), (.int p1), (.int (0 : Int32)), (.int (4 : Int32))])) rfl (by rw [hml]; rfl) (argsL := [(.int (4 : Int32)), (.int (0 : Int32)), (.int p1), (.int a1), (.int b1)]) (rest := []) (lenOf pd_3 rfl) rfl (by show 2 * 0 + _ ≤ _; exact Nat.le_of_eq rfl) (hb hby at_17) (fun _ _ => ⟨rfl, e0, (by decide : 0 + 1 ≤ _), (by decide : 0 + 4 ≤ _)⟩)
    dsimp only [Pt.U, Pt.locs, Pt.cells, Pt.slots] at X247 l247 y247 z247 st247 hQ247
    subst l247 y247 z247
    obtain ⟨h247, e247⟩ : ∃ z, T247.heap = z := ⟨_, rfl⟩
    rw [e247] at hQ247
    obtain ⟨b244, rfl, N247q, K247q, hge245, F248⟩ := hQ247
    have z249 : n0 ≤ h247.size := Nat.le_trans Z0 K247q.1
    have N247 := Fr.app N0 N247q
    have S250 : ∀ t, Steps p.tables e below (T247.setTop (mkF m 25 #[.val (.int p1), .val (.int o1), .val (.int a1), .val (.int b1), .val (.int s1), .val (.int (4 : Int32)), .val (.ref b244), .unset, .unset, .unset, .unset] [(.int p1), (.ref b244)])) t → Steps p.tables e below (T247.setTop (mkF m 20 #[.val (.int p1), .val (.int o1), .val (.int a1), .val (.int b1), .val (.int s1), .val (.int (4 : Int32)), .unset, .unset, .unset, .unset, .unset] [(.ref b244)])) t := by
      intro t kt
      show Steps p.tables e below (T247.setTop (mkF m 20 #[.val (.int p1), .val (.int o1), .val (.int a1), .val (.int b1), .val (.int s1), .val (.int (4 : Int32)), .unset, .unset, .unset, .unset, .unset] [(.ref b244)])) _
      refine XS.astore X247.here hx rfl (hb hby at_20) rfl rfl (l' := #[.val (.int p1), .val (.int o1), .val (.int a1), .val (.int b1), .val (.int s1), .val (.int (4 : Int32)), .val (.ref b244), .unset, .unset, .unset, .unset]) rfl ?_
      show Steps p.tables e below (T247.setTop (mkF m 22 #[.val (.int p1), .val (.int o1), .val (.int a1), .val (.int b1), .val (.int s1), .val (.int (4 : Int32)), .val (.ref b244), .unset, .unset, .unset, .unset] [])) _
      refine XS.aload X247.here hx rfl (hb hby at_22) rfl rfl ?_
      show Steps p.tables e below (T247.setTop (mkF m 24 #[.val (.int p1), .val (.int o1), .val (.int a1), .val (.int b1), .val (.int s1), .val (.int (4 : Int32)), .val (.ref b244), .unset, .unset, .unset, .unset] [(.ref b244)])) _
      refine XS.iloadN X247.here hx rfl (hb hby at_24) rfl ?_
      exact kt
    obtain ⟨_, _, ⟨T251, L251, k251, n251⟩, -, X251, ⟨Lc251, hQ251, l251, y251, z251⟩, st251⟩ := Jvm.LawKit.callS X247 hx (y := (⟨"com/example/bough3/bough3/model/PrincipalSlots", "slotOf", "([II)I"⟩ : MethodName)) hown (mvT hZ (hw _ (List.mem_of_getElem? (i := 12) rfl))) (mvT hZ (hw _ (List.mem_of_getElem? (i := 13) rfl))) (mvT hZ (hw _ (List.mem_of_getElem? (i := 14) rfl))) (mvT hZ (hw _ (List.mem_of_getElem? (i := 15) rfl))) (by decide) (backOf (W := 0) (rm4 l Z a0 hw [] b244 p1 4 0 (own_tab (0 : Int32) p1 a1 b1) h247 n0 z249 F248 hn (fun j hj => absurd hj (Nat.not_lt_zero j)) (own_home p1 a1 b1 _)) hZ (hw _ (List.mem_of_getElem? (i := 15) rfl)) (hw _ (List.mem_of_getElem? (i := 14) rfl)) (by decide) (by decide)) (g := (mkF m 25 #[.val (.int p1), .val (.int o1), .val (.int a1), .val (.int b1), .val (.int s1), .val (.int (4 : Int32)), .val (.ref b244), .unset, .unset, .unset, .unset] [(.int p1), (.ref b244)])) rfl (by rw [hml]; rfl) (argsL := [(.ref b244), (.int p1)]) (rest := []) (lenOf pd_4 rfl) rfl (by show 2 * 0 + _ ≤ _; exact Nat.le_of_eq rfl) (hb hby at_25) (fun _ _ => ⟨rfl, e247, (by decide : 1 + 0 ≤ _), (by decide : 4 + 0 ≤ _)⟩)
    dsimp only [Pt.U, Pt.locs, Pt.cells, Pt.slots] at X251 l251 y251 z251 st251 hQ251
    subst l251 y251 z251
    obtain ⟨rfl, N251q, e251⟩ := hQ251
    have N251 := Fr.app N247 N251q
    have S252 : ∀ t, Steps p.tables e below (T251.setTop (mkF m 28 #[.val (.int p1), .val (.int o1), .val (.int a1), .val (.int b1), .val (.int s1), .val (.int (4 : Int32)), .val (.ref b244), .unset, .unset, .unset, .unset] [(.int ((own_hash p1) &&& ((Int32.ofNat 4) - (1 : Int32))))])) t → Steps p.tables e below (T251.setTop (mkF m 28 #[.val (.int p1), .val (.int o1), .val (.int a1), .val (.int b1), .val (.int s1), .val (.int (4 : Int32)), .val (.ref b244), .unset, .unset, .unset, .unset] [(.int (own_it ((Int32.ofNat 4) - (1 : Int32)) 0 ((own_hash p1) &&& ((Int32.ofNat 4) - (1 : Int32)))))])) t := fun t k => by rw [(show (own_it ((Int32.ofNat 4) - (1 : Int32)) 0 ((own_hash p1) &&& ((Int32.ofNat 4) - (1 : Int32)))) = ((own_hash p1) &&& ((Int32.ofNat 4) - (1 : Int32))) from rfl)]; exact k
    obtain ⟨v253, hv253⟩ : ∃ z : Int32, z = ((own_hash p1) &&& ((Int32.ofNat 4) - (1 : Int32))) := ⟨_, rfl⟩
    have S254 : ∀ t, Steps p.tables e below (T251.setTop (mkF m 28 #[.val (.int p1), .val (.int o1), .val (.int a1), .val (.int b1), .val (.int s1), .val (.int (4 : Int32)), .val (.ref b244), .unset, .unset, .unset, .unset] [(.int v253)])) t → Steps p.tables e below (T251.setTop (mkF m 28 #[.val (.int p1), .val (.int o1), .val (.int a1), .val (.int b1), .val (.int s1), .val (.int (4 : Int32)), .val (.ref b244), .unset, .unset, .unset, .unset] [(.int ((own_hash p1) &&& ((Int32.ofNat 4) - (1 : Int32))))])) t := fun t k => by rw [hv253.symm]; exact k
    have hh : 0 ≤ v253.toInt ∧ v253.toInt < (4 : Nat) := by rw [hv253]; have z := own_mask_in (own_hash p1) hn; omega
    have S257 : ∀ t, Steps p.tables e below (T251.setTop (mkF m 50 #[.val (.int p1), .val (.int o1), .val (.int a1), .val (.int b1), .val (.int s1), .val (.int (4 : Int32)), .val (.ref b244), .val (.int v253), .unset, .unset, .unset] [(.int b1), (.int a1), (.int p1), (.int o1), (.int (4 : Int32))])) t → Steps p.tables e below (T251.setTop (mkF m 28 #[.val (.int p1), .val (.int o1), .val (.int a1), .val (.int b1), .val (.int s1), .val (.int (4 : Int32)), .val (.ref b244), .unset, .unset, .unset, .unset] [(.int v253)])) t := by
      intro t kt
      show Steps p.tables e below (T251.setTop (mkF m 28 #[.val (.int p1), .val (.int o1), .val (.int a1), .val (.int b1), .val (.int s1), .val (.int (4 : Int32)), .val (.ref b244), .unset, .unset, .unset, .unset] [(.int v253)])) _
      refine XS.istore X251.here hx rfl (hb hby at_28) rfl (l' := #[.val (.int p1), .val (.int o1), .val (.int a1), .val (.int b1), .val (.int s1), .val (.int (4 : Int32)), .val (.ref b244), .val (.int v253), .unset, .unset, .unset]) rfl ?_
      show Steps p.tables e below (T251.setTop (mkF m 30 #[.val (.int p1), .val (.int o1), .val (.int a1), .val (.int b1), .val (.int s1), .val (.int (4 : Int32)), .val (.ref b244), .val (.int v253), .unset, .unset, .unset] [])) _
      refine XS.iload X251.here hx rfl (hb hby at_30) rfl ?_
      show Steps p.tables e below (T251.setTop (mkF m 32 #[.val (.int p1), .val (.int o1), .val (.int a1), .val (.int b1), .val (.int s1), .val (.int (4 : Int32)), .val (.ref b244), .val (.int v253), .unset, .unset, .unset] [(.int v253)])) _
      refine XS.ifNo X251.here hx rfl (hb hby at_32) rfl ((if0 _ _).trans (flt (by rw [Int32.lt_iff_toInt_lt, show (0 : Int32).toInt = 0 by decide]; omega)).1) ?_
      show Steps p.tables e below (T251.setTop (mkF m 35 #[.val (.int p1), .val (.int o1), .val (.int a1), .val (.int b1), .val (.int s1), .val (.int (4 : Int32)), .val (.ref b244), .val (.int v253), .unset, .unset, .unset] [])) _
      refine XS.iload X251.here hx rfl (hb hby at_35) rfl ?_
      show Steps p.tables e below (T251.setTop (mkF m 37 #[.val (.int p1), .val (.int o1), .val (.int a1), .val (.int b1), .val (.int s1), .val (.int (4 : Int32)), .val (.ref b244), .val (.int v253), .unset, .unset, .unset] [(.int v253)])) _
      refine XS.iload X251.here hx rfl (hb hby at_37) rfl ?_
      show Steps p.tables e below (T251.setTop (mkF m 39 #[.val (.int p1), .val (.int o1), .val (.int a1), .val (.int b1), .val (.int s1), .val (.int (4 : Int32)), .val (.ref b244), .val (.int v253), .unset, .unset, .unset] [(.int (4 : Int32)), (.int v253)])) _
      refine XS.icmpYes X251.here hx rfl (pc0 := 39) (pc' := 44) rfl (hb hby at_39) rfl (tlt (by rw [Int32.lt_iff_toInt_lt, show (4 : Int32).toInt = 4 by decide]; omega)).1 (by decide) (by decide) ?_
      show Steps p.tables e below (T251.setTop (mkF m 44 #[.val (.int p1), .val (.int o1), .val (.int a1), .val (.int b1), .val (.int s1), .val (.int (4 : Int32)), .val (.ref b244), .val (.int v253), .unset, .unset, .unset] [])) _
      refine XS.iload X251.here hx rfl (hb hby at_44) rfl ?_
      show Steps p.tables e below (T251.setTop (mkF m 46 #[.val (.int p1), .val (.int o1), .val (.int a1), .val (.int b1), .val (.int s1), .val (.int (4 : Int32)), .val (.ref b244), .val (.int v253), .unset, .unset, .unset] [(.int (4 : Int32))])) _
      refine XS.iloadN X251.here hx rfl (hb hby at_46) rfl ?_
      show Steps p.tables e below (T251.setTop (mkF m 47 #[.val (.int p1), .val (.int o1), .val (.int a1), .val (.int b1), .val (.int s1), .val (.int (4 : Int32)), .val (.ref b244), .val (.int v253), .unset, .unset, .unset] [(.int o1), (.int (4 : Int32))])) _
      refine XS.iloadN X251.here hx rfl (hb hby at_47) rfl ?_
      show Steps p.tables e below (T251.setTop (mkF m 48 #[.val (.int p1), .val (.int o1), .val (.int a1), .val (.int b1), .val (.int s1), .val (.int (4 : Int32)), .val (.ref b244), .val (.int v253), .unset, .unset, .unset] [(.int p1), (.int o1), (.int (4 : Int32))])) _
      refine XS.iloadN X251.here hx rfl (hb hby at_48) rfl ?_
      show Steps p.tables e below (T251.setTop (mkF m 49 #[.val (.int p1), .val (.int o1), .val (.int a1), .val (.int b1), .val (.int s1), .val (.int (4 : Int32)), .val (.ref b244), .val (.int v253), .unset, .unset, .unset] [(.int a1), (.int p1), (.int o1), (.int (4 : Int32))])) _
      refine XS.iloadN X251.here hx rfl (hb hby at_49) rfl ?_
      exact kt
    obtain ⟨_, _, ⟨T258, L258, k258, n258⟩, -, X258, ⟨Lc258, hQ258, l258, y258, z258⟩, st258⟩ := Jvm.LawKit.callS X251 hx (y := (⟨"com/example/bough3/bough3/model/PrincipalSlotsSlotOfPinLaw", "table", "(IIIII)[I"⟩ : MethodName)) hown (mvT hZ (hw _ (List.mem_of_getElem? (i := 1) rfl))) (mvT hZ (hw _ (List.mem_of_getElem? (i := 2) rfl))) (mvT hZ (hw _ (List.mem_of_getElem? (i := 3) rfl))) (mvT hZ (hw _ (List.mem_of_getElem? (i := 4) rfl))) (by decide) (backOf (W := 0) (rm_t4 l Z a0 hw [] o1 p1 a1 b1 h247 n0 z249 ) hZ (hw _ (List.mem_of_getElem? (i := 4) rfl)) (hw _ (List.mem_of_getElem? (i := 3) rfl)) (by decide) (by decide)) (g := (mkF m 50 #[.val (.int p1), .val (.int o1), .val (.int a1), .val (.int b1), .val (.int s1), .val (.int (4 : Int32)), .val (.ref b244), .val (.int v253), .unset, .unset, .unset] [(.int b1), (.int a1), (.int p1), (.int o1), (.int (4 : Int32))])) rfl (by rw [hml]; rfl) (argsL := [(.int (4 : Int32)), (.int o1), (.int p1), (.int a1), (.int b1)]) (rest := []) (lenOf pd_3 rfl) rfl (by show 2 * 0 + _ ≤ _; exact Nat.le_of_eq rfl) (hb hby at_50) (fun _ _ => ⟨rfl, e251, (by decide : 1 + 1 ≤ _), (by decide : 4 + 4 ≤ _)⟩)
    dsimp only [Pt.U, Pt.locs, Pt.cells, Pt.slots] at X258 l258 y258 z258 st258 hQ258
    subst l258 y258 z258
    obtain ⟨h258, e258⟩ : ∃ z, T258.heap = z := ⟨_, rfl⟩
    rw [e258] at hQ258
    obtain ⟨b255, rfl, N258q, K258q, hge256, F259⟩ := hQ258
    have z260 : n0 ≤ h258.size := Nat.le_trans z249 K258q.1
    have N258 := Fr.app N251 N258q
    have S261 : ∀ t, Steps p.tables e below (T258.setTop (mkF m 60 #[.val (.int p1), .val (.int o1), .val (.int a1), .val (.int b1), .val (.int s1), .val (.int (4 : Int32)), .val (.ref b244), .val (.int v253), .val (.ref b255), .unset, .unset] [(.int v253), (.int p1), (.ref b255)])) t → Steps p.tables e below (T258.setTop (mkF m 53 #[.val (.int p1), .val (.int o1), .val (.int a1), .val (.int b1), .val (.int s1), .val (.int (4 : Int32)), .val (.ref b244), .val (.int v253), .unset, .unset, .unset] [(.ref b255)])) t := by
      intro t kt
      show Steps p.tables e below (T258.setTop (mkF m 53 #[.val (.int p1), .val (.int o1), .val (.int a1), .val (.int b1), .val (.int s1), .val (.int (4 : Int32)), .val (.ref b244), .val (.int v253), .unset, .unset, .unset] [(.ref b255)])) _
      refine XS.astore X258.here hx rfl (hb hby at_53) rfl rfl (l' := #[.val (.int p1), .val (.int o1), .val (.int a1), .val (.int b1), .val (.int s1), .val (.int (4 : Int32)), .val (.ref b244), .val (.int v253), .val (.ref b255), .unset, .unset]) rfl ?_
      show Steps p.tables e below (T258.setTop (mkF m 55 #[.val (.int p1), .val (.int o1), .val (.int a1), .val (.int b1), .val (.int s1), .val (.int (4 : Int32)), .val (.ref b244), .val (.int v253), .val (.ref b255), .unset, .unset] [])) _
      refine XS.aload X258.here hx rfl (hb hby at_55) rfl rfl ?_
      show Steps p.tables e below (T258.setTop (mkF m 57 #[.val (.int p1), .val (.int o1), .val (.int a1), .val (.int b1), .val (.int s1), .val (.int (4 : Int32)), .val (.ref b244), .val (.int v253), .val (.ref b255), .unset, .unset] [(.ref b255)])) _
      refine XS.iloadN X258.here hx rfl (hb hby at_57) rfl ?_
      show Steps p.tables e below (T258.setTop (mkF m 58 #[.val (.int p1), .val (.int o1), .val (.int a1), .val (.int b1), .val (.int s1), .val (.int (4 : Int32)), .val (.ref b244), .val (.int v253), .val (.ref b255), .unset, .unset] [(.int p1), (.ref b255)])) _
      refine XS.iload X258.here hx rfl (hb hby at_58) rfl ?_
      exact kt
    obtain ⟨_, _, ⟨T262, L262, k262, n262⟩, -, X262, ⟨Lc262, hQ262, l262, y262, z262⟩, st262⟩ := Jvm.LawKit.callS X258 hx (y := (⟨"com/example/bough3/bough3/model/PrincipalSlotsSlotOfPinLaw", "firstFrom", "([III)I"⟩ : MethodName)) hown (mvT hZ (hw _ (List.mem_of_getElem? (i := 17) rfl))) (mvT hZ (hw _ (List.mem_of_getElem? (i := 18) rfl))) (mvT hZ (hw _ (List.mem_of_getElem? (i := 3) rfl))) (mvT hZ (hw _ (List.mem_of_getElem? (i := 19) rfl))) (by decide) (backOf (W := 0) (rm5 l Z a0 hw [] b255 p1 v253 4 (own_tab o1 p1 a1 b1) h258 n0 z260 F259 hn) hZ (hw _ (List.mem_of_getElem? (i := 19) rfl)) (hw _ (List.mem_of_getElem? (i := 3) rfl)) (by decide) (by decide)) (g := (mkF m 60 #[.val (.int p1), .val (.int o1), .val (.int a1), .val (.int b1), .val (.int s1), .val (.int (4 : Int32)), .val (.ref b244), .val (.int v253), .val (.ref b255), .unset, .unset] [(.int v253), (.int p1), (.ref b255)])) rfl (by rw [hml]; rfl) (argsL := [(.ref b255), (.int p1), (.int v253)]) (rest := []) (lenOf pd_5 rfl) rfl (by show 2 * 0 + _ ≤ _; exact Nat.le_of_eq rfl) (hb hby at_60) (fun _ _ => ⟨rfl, e258, (by decide : 2 + 0 ≤ _), (by decide : 8 + 0 ≤ _)⟩)
    dsimp only [Pt.U, Pt.locs, Pt.cells, Pt.slots] at X262 l262 y262 z262 st262 hQ262
    subst l262 y262 z262
    obtain ⟨rfl, N262q, e262⟩ := hQ262
    have N262 := Fr.app N258 N262q
    have S263 : ∀ t, Steps p.tables e below (T262.setTop (mkF m 67 #[.val (.int p1), .val (.int o1), .val (.int a1), .val (.int b1), .val (.int s1), .val (.int (4 : Int32)), .val (.ref b244), .val (.int v253), .val (.ref b255), .val (.int (own_ff (own_G (own_tab o1 p1 a1 b1)) v253 ((Int32.ofNat 4) - (1 : Int32)) p1)), .unset] [(.int (own_ff (own_G (own_tab o1 p1 a1 b1)) v253 ((Int32.ofNat 4) - (1 : Int32)) p1))])) t → Steps p.tables e below (T262.setTop (mkF m 63 #[.val (.int p1), .val (.int o1), .val (.int a1), .val (.int b1), .val (.int s1), .val (.int (4 : Int32)), .val (.ref b244), .val (.int v253), .val (.ref b255), .unset, .unset] [(.int (own_ff (own_G (own_tab o1 p1 a1 b1)) v253 ((Int32.ofNat 4) - (1 : Int32)) p1))])) t := by
      intro t kt
      show Steps p.tables e below (T262.setTop (mkF m 63 #[.val (.int p1), .val (.int o1), .val (.int a1), .val (.int b1), .val (.int s1), .val (.int (4 : Int32)), .val (.ref b244), .val (.int v253), .val (.ref b255), .unset, .unset] [(.int (own_ff (own_G (own_tab o1 p1 a1 b1)) v253 ((Int32.ofNat 4) - (1 : Int32)) p1))])) _
      refine XS.istore X262.here hx rfl (hb hby at_63) rfl (l' := #[.val (.int p1), .val (.int o1), .val (.int a1), .val (.int b1), .val (.int s1), .val (.int (4 : Int32)), .val (.ref b244), .val (.int v253), .val (.ref b255), .val (.int (own_ff (own_G (own_tab o1 p1 a1 b1)) v253 ((Int32.ofNat 4) - (1 : Int32)) p1)), .unset]) rfl ?_
      show Steps p.tables e below (T262.setTop (mkF m 65 #[.val (.int p1), .val (.int o1), .val (.int a1), .val (.int b1), .val (.int s1), .val (.int (4 : Int32)), .val (.ref b244), .val (.int v253), .val (.ref b255), .val (.int (own_ff (own_G (own_tab o1 p1 a1 b1)) v253 ((Int32.ofNat 4) - (1 : Int32)) p1)), .unset] [])) _
      refine XS.iload X262.here hx rfl (hb hby at_65) rfl ?_
      exact kt
    by_cases hc264 : (own_ff (own_G (own_tab o1 p1 a1 b1)) v253 ((Int32.ofNat 4) - (1 : Int32)) p1) < (0 : Int32)
    · have S265 : ∀ t, Steps p.tables e below (T262.setTop (mkF m 71 #[.val (.int p1), .val (.int o1), .val (.int a1), .val (.int b1), .val (.int s1), .val (.int (4 : Int32)), .val (.ref b244), .val (.int v253), .val (.ref b255), .val (.int (own_ff (own_G (own_tab o1 p1 a1 b1)) v253 ((Int32.ofNat 4) - (1 : Int32)) p1)), .unset] [(.int (1 : Int32))])) t → Steps p.tables e below (T262.setTop (mkF m 67 #[.val (.int p1), .val (.int o1), .val (.int a1), .val (.int b1), .val (.int s1), .val (.int (4 : Int32)), .val (.ref b244), .val (.int v253), .val (.ref b255), .val (.int (own_ff (own_G (own_tab o1 p1 a1 b1)) v253 ((Int32.ofNat 4) - (1 : Int32)) p1)), .unset] [(.int (own_ff (own_G (own_tab o1 p1 a1 b1)) v253 ((Int32.ofNat 4) - (1 : Int32)) p1))])) t := by
        intro t kt
        show Steps p.tables e below (T262.setTop (mkF m 67 #[.val (.int p1), .val (.int o1), .val (.int a1), .val (.int b1), .val (.int s1), .val (.int (4 : Int32)), .val (.ref b244), .val (.int v253), .val (.ref b255), .val (.int (own_ff (own_G (own_tab o1 p1 a1 b1)) v253 ((Int32.ofNat 4) - (1 : Int32)) p1)), .unset] [(.int (own_ff (own_G (own_tab o1 p1 a1 b1)) v253 ((Int32.ofNat 4) - (1 : Int32)) p1))])) _
        refine XS.ifNo X262.here hx rfl (hb hby at_67) rfl ((if0 _ _).trans (tlt hc264).2.1) ?_
        show Steps p.tables e below (T262.setTop (mkF m 70 #[.val (.int p1), .val (.int o1), .val (.int a1), .val (.int b1), .val (.int s1), .val (.int (4 : Int32)), .val (.ref b244), .val (.int v253), .val (.ref b255), .val (.int (own_ff (own_G (own_tab o1 p1 a1 b1)) v253 ((Int32.ofNat 4) - (1 : Int32)) p1)), .unset] [])) _
        refine XS.iconst X262.here hx rfl (hb hby at_70) ?_
        exact kt
      have C266 : ∀ t, Steps p.tables e below (T262.setTop (mkF m 71 #[.val (.int p1), .val (.int o1), .val (.int a1), .val (.int b1), .val (.int s1), .val (.int (4 : Int32)), .val (.ref b244), .val (.int v253), .val (.ref b255), .val (.int (own_ff (own_G (own_tab o1 p1 a1 b1)) v253 ((Int32.ofNat 4) - (1 : Int32)) p1)), .unset] [(.int (1 : Int32))])) t → Steps p.tables e below (s₁.setTop (mkF m 0 #[.val (.int p1), .val (.int o1), .val (.int a1), .val (.int b1), .val (.int s1), .unset, .unset, .unset, .unset, .unset, .unset] [])) t := (fun t k => (C210 t (S241 t (S242 t (S243 t (S246 t (st247 t (S250 t (st251 t (S252 t (S254 t (S257 t (st258 t (S261 t (st262 t (S263 t (S265 t k)))))))))))))))))
      obtain ⟨fs, hr, hrun, hended, hW, hsame⟩ := X262.leave (v := some (.int (1 : Int32))) (fun h => by rw [Bd.returns] at h; cases h)
      refine ⟨_, _, pre0 _ (C266 _ ?_), hrun, hended, _, _, rfl, ?_, ⟨_, rfl⟩, hW, hsame.mono (by decide) (by decide)⟩
      · exact retN X262 hx (t := .boolean) Bd.returns (by simp) (hb hby at_71) hr
      · show Q_rm0 Z p1 o1 a1 b1 s1 h0 n0 _ T262.heap _
        rw [e262]
        exact ⟨rfl, N262⟩
    · obtain ⟨k, hno, hst, hfe⟩ := own_found (own_G (own_tab o1 p1 a1 b1)) v253 p1 hn hh hc264
      rw [hv253] at hno hst
      have S267 : ∀ t, Steps p.tables e below (T262.setTop (mkF m 75 #[.val (.int p1), .val (.int o1), .val (.int a1), .val (.int b1), .val (.int s1), .val (.int (4 : Int32)), .val (.ref b244), .val (.int v253), .val (.ref b255), .val (.int (own_ff (own_G (own_tab o1 p1 a1 b1)) v253 ((Int32.ofNat 4) - (1 : Int32)) p1)), .unset] [(.int p1), (.ref b255)])) t → Steps p.tables e below (T262.setTop (mkF m 67 #[.val (.int p1), .val (.int o1), .val (.int a1), .val (.int b1), .val (.int s1), .val (.int (4 : Int32)), .val (.ref b244), .val (.int v253), .val (.ref b255), .val (.int (own_ff (own_G (own_tab o1 p1 a1 b1)) v253 ((Int32.ofNat 4) - (1 : Int32)) p1)), .unset] [(.int (own_ff (own_G (own_tab o1 p1 a1 b1)) v253 ((Int32.ofNat 4) - (1 : Int32)) p1))])) t := by
        intro t kt
        show Steps p.tables e below (T262.setTop (mkF m 67 #[.val (.int p1), .val (.int o1), .val (.int a1), .val (.int b1), .val (.int s1), .val (.int (4 : Int32)), .val (.ref b244), .val (.int v253), .val (.ref b255), .val (.int (own_ff (own_G (own_tab o1 p1 a1 b1)) v253 ((Int32.ofNat 4) - (1 : Int32)) p1)), .unset] [(.int (own_ff (own_G (own_tab o1 p1 a1 b1)) v253 ((Int32.ofNat 4) - (1 : Int32)) p1))])) _
        refine XS.ifYes X262.here hx rfl (pc0 := 67) (pc' := 72) rfl (hb hby at_67) rfl ((if0 _ _).trans (flt hc264).2.1) (by decide) (by decide) ?_
        show Steps p.tables e below (T262.setTop (mkF m 72 #[.val (.int p1), .val (.int o1), .val (.int a1), .val (.int b1), .val (.int s1), .val (.int (4 : Int32)), .val (.ref b244), .val (.int v253), .val (.ref b255), .val (.int (own_ff (own_G (own_tab o1 p1 a1 b1)) v253 ((Int32.ofNat 4) - (1 : Int32)) p1)), .unset] [])) _
        refine XS.aload X262.here hx rfl (hb hby at_72) rfl rfl ?_
        show Steps p.tables e below (T262.setTop (mkF m 74 #[.val (.int p1), .val (.int o1), .val (.int a1), .val (.int b1), .val (.int s1), .val (.int (4 : Int32)), .val (.ref b244), .val (.int v253), .val (.ref b255), .val (.int (own_ff (own_G (own_tab o1 p1 a1 b1)) v253 ((Int32.ofNat 4) - (1 : Int32)) p1)), .unset] [(.ref b255)])) _
        refine XS.iloadN X262.here hx rfl (hb hby at_74) rfl ?_
        exact kt
      obtain ⟨_, _, ⟨T268, L268, k268, n268⟩, -, X268, ⟨Lc268, hQ268, l268, y268, z268⟩, st268⟩ := Jvm.LawKit.callS X262 hx (y := (⟨"com/example/bough3/bough3/model/PrincipalSlots", "slotOf", "([II)I"⟩ : MethodName)) hown (mvT hZ (hw _ (List.mem_of_getElem? (i := 12) rfl))) (mvT hZ (hw _ (List.mem_of_getElem? (i := 13) rfl))) (mvT hZ (hw _ (List.mem_of_getElem? (i := 14) rfl))) (mvT hZ (hw _ (List.mem_of_getElem? (i := 15) rfl))) (by decide) (backOf (W := 0) (rm4 l Z a0 hw [] b255 p1 4 k (own_tab o1 p1 a1 b1) h258 n0 z260 F259 hn hno hst) hZ (hw _ (List.mem_of_getElem? (i := 15) rfl)) (hw _ (List.mem_of_getElem? (i := 14) rfl)) (by decide) (by decide)) (g := (mkF m 75 #[.val (.int p1), .val (.int o1), .val (.int a1), .val (.int b1), .val (.int s1), .val (.int (4 : Int32)), .val (.ref b244), .val (.int v253), .val (.ref b255), .val (.int (own_ff (own_G (own_tab o1 p1 a1 b1)) v253 ((Int32.ofNat 4) - (1 : Int32)) p1)), .unset] [(.int p1), (.ref b255)])) rfl (by rw [hml]; rfl) (argsL := [(.ref b255), (.int p1)]) (rest := []) (lenOf pd_4 rfl) rfl (by show 2 * 0 + _ ≤ _; exact Nat.le_of_eq rfl) (hb hby at_75) (fun _ _ => ⟨rfl, e262, (by decide : 2 + 0 ≤ _), (by decide : 8 + 0 ≤ _)⟩)
      dsimp only [Pt.U, Pt.locs, Pt.cells, Pt.slots] at X268 l268 y268 z268 st268 hQ268
      subst l268 y268 z268
      obtain ⟨rfl, N268q, e268⟩ := hQ268
      have N268 := Fr.app N262 N268q
      have S269 : ∀ t, Steps p.tables e below (T268.setTop (mkF m 92 #[.val (.int p1), .val (.int o1), .val (.int a1), .val (.int b1), .val (.int s1), .val (.int (4 : Int32)), .val (.ref b244), .val (.int v253), .val (.ref b255), .val (.int (own_ff (own_G (own_tab o1 p1 a1 b1)) v253 ((Int32.ofNat 4) - (1 : Int32)) p1)), .val (.int (own_it ((Int32.ofNat 4) - (1 : Int32)) k ((own_hash p1) &&& ((Int32.ofNat 4) - (1 : Int32)))))] [(.int (1 : Int32))])) t → Steps p.tables e below (T268.setTop (mkF m 78 #[.val (.int p1), .val (.int o1), .val (.int a1), .val (.int b1), .val (.int s1), .val (.int (4 : Int32)), .val (.ref b244), .val (.int v253), .val (.ref b255), .val (.int (own_ff (own_G (own_tab o1 p1 a1 b1)) v253 ((Int32.ofNat 4) - (1 : Int32)) p1)), .unset] [(.int (own_it ((Int32.ofNat 4) - (1 : Int32)) k ((own_hash p1) &&& ((Int32.ofNat 4) - (1 : Int32)))))])) t := by
        intro t kt
        show Steps p.tables e below (T268.setTop (mkF m 78 #[.val (.int p1), .val (.int o1), .val (.int a1), .val (.int b1), .val (.int s1), .val (.int (4 : Int32)), .val (.ref b244), .val (.int v253), .val (.ref b255), .val (.int (own_ff (own_G (own_tab o1 p1 a1 b1)) v253 ((Int32.ofNat 4) - (1 : Int32)) p1)), .unset] [(.int (own_it ((Int32.ofNat 4) - (1 : Int32)) k ((own_hash p1) &&& ((Int32.ofNat 4) - (1 : Int32)))))])) _
        refine XS.istore X268.here hx rfl (hb hby at_78) rfl (l' := #[.val (.int p1), .val (.int o1), .val (.int a1), .val (.int b1), .val (.int s1), .val (.int (4 : Int32)), .val (.ref b244), .val (.int v253), .val (.ref b255), .val (.int (own_ff (own_G (own_tab o1 p1 a1 b1)) v253 ((Int32.ofNat 4) - (1 : Int32)) p1)), .val (.int (own_it ((Int32.ofNat 4) - (1 : Int32)) k ((own_hash p1) &&& ((Int32.ofNat 4) - (1 : Int32)))))]) rfl ?_
        show Steps p.tables e below (T268.setTop (mkF m 80 #[.val (.int p1), .val (.int o1), .val (.int a1), .val (.int b1), .val (.int s1), .val (.int (4 : Int32)), .val (.ref b244), .val (.int v253), .val (.ref b255), .val (.int (own_ff (own_G (own_tab o1 p1 a1 b1)) v253 ((Int32.ofNat 4) - (1 : Int32)) p1)), .val (.int (own_it ((Int32.ofNat 4) - (1 : Int32)) k ((own_hash p1) &&& ((Int32.ofNat 4) - (1 : Int32)))))] [])) _
        refine XS.iload X268.here hx rfl (hb hby at_80) rfl ?_
        show Steps p.tables e below (T268.setTop (mkF m 82 #[.val (.int p1), .val (.int o1), .val (.int a1), .val (.int b1), .val (.int s1), .val (.int (4 : Int32)), .val (.ref b244), .val (.int v253), .val (.ref b255), .val (.int (own_ff (own_G (own_tab o1 p1 a1 b1)) v253 ((Int32.ofNat 4) - (1 : Int32)) p1)), .val (.int (own_it ((Int32.ofNat 4) - (1 : Int32)) k ((own_hash p1) &&& ((Int32.ofNat 4) - (1 : Int32)))))] [(.int (own_it ((Int32.ofNat 4) - (1 : Int32)) k ((own_hash p1) &&& ((Int32.ofNat 4) - (1 : Int32)))))])) _
        refine XS.iload X268.here hx rfl (hb hby at_82) rfl ?_
        show Steps p.tables e below (T268.setTop (mkF m 84 #[.val (.int p1), .val (.int o1), .val (.int a1), .val (.int b1), .val (.int s1), .val (.int (4 : Int32)), .val (.ref b244), .val (.int v253), .val (.ref b255), .val (.int (own_ff (own_G (own_tab o1 p1 a1 b1)) v253 ((Int32.ofNat 4) - (1 : Int32)) p1)), .val (.int (own_it ((Int32.ofNat 4) - (1 : Int32)) k ((own_hash p1) &&& ((Int32.ofNat 4) - (1 : Int32)))))] [(.int (own_ff (own_G (own_tab o1 p1 a1 b1)) v253 ((Int32.ofNat 4) - (1 : Int32)) p1)), (.int (own_it ((Int32.ofNat 4) - (1 : Int32)) k ((own_hash p1) &&& ((Int32.ofNat 4) - (1 : Int32)))))])) _
        refine XS.icmpNo X268.here hx rfl (hb hby at_84) rfl (teq (show (own_it ((Int32.ofNat 4) - (1 : Int32)) k ((own_hash p1) &&& ((Int32.ofNat 4) - (1 : Int32)))) = (own_ff (own_G (own_tab o1 p1 a1 b1)) v253 ((Int32.ofNat 4) - (1 : Int32)) p1) from by rw [hfe, hv253])).2 ?_
        show Steps p.tables e below (T268.setTop (mkF m 87 #[.val (.int p1), .val (.int o1), .val (.int a1), .val (.int b1), .val (.int s1), .val (.int (4 : Int32)), .val (.ref b244), .val (.int v253), .val (.ref b255), .val (.int (own_ff (own_G (own_tab o1 p1 a1 b1)) v253 ((Int32.ofNat 4) - (1 : Int32)) p1)), .val (.int (own_it ((Int32.ofNat 4) - (1 : Int32)) k ((own_hash p1) &&& ((Int32.ofNat 4) - (1 : Int32)))))] [])) _
        refine XS.iconst X268.here hx rfl (hb hby at_87) ?_
        show Steps p.tables e below (T268.setTop (mkF m 88 #[.val (.int p1), .val (.int o1), .val (.int a1), .val (.int b1), .val (.int s1), .val (.int (4 : Int32)), .val (.ref b244), .val (.int v253), .val (.ref b255), .val (.int (own_ff (own_G (own_tab o1 p1 a1 b1)) v253 ((Int32.ofNat 4) - (1 : Int32)) p1)), .val (.int (own_it ((Int32.ofNat 4) - (1 : Int32)) k ((own_hash p1) &&& ((Int32.ofNat 4) - (1 : Int32)))))] [(.int (1 : Int32))])) _
        refine XS.goto X268.here hx rfl (pc0 := 88) (pc' := 92) rfl (hb hby at_88) (by decide) (by decide) ?_
        exact kt
      have C270 : ∀ t, Steps p.tables e below (T268.setTop (mkF m 92 #[.val (.int p1), .val (.int o1), .val (.int a1), .val (.int b1), .val (.int s1), .val (.int (4 : Int32)), .val (.ref b244), .val (.int v253), .val (.ref b255), .val (.int (own_ff (own_G (own_tab o1 p1 a1 b1)) v253 ((Int32.ofNat 4) - (1 : Int32)) p1)), .val (.int (own_it ((Int32.ofNat 4) - (1 : Int32)) k ((own_hash p1) &&& ((Int32.ofNat 4) - (1 : Int32)))))] [(.int (1 : Int32))])) t → Steps p.tables e below (s₁.setTop (mkF m 0 #[.val (.int p1), .val (.int o1), .val (.int a1), .val (.int b1), .val (.int s1), .unset, .unset, .unset, .unset, .unset, .unset] [])) t := (fun t k => (C210 t (S241 t (S242 t (S243 t (S246 t (st247 t (S250 t (st251 t (S252 t (S254 t (S257 t (st258 t (S261 t (st262 t (S263 t (S267 t (st268 t (S269 t k)))))))))))))))))))
      obtain ⟨fs, hr, hrun, hended, hW, hsame⟩ := X268.leave (v := some (.int (1 : Int32))) (fun h => by rw [Bd.returns] at h; cases h)
      refine ⟨_, _, pre0 _ (C270 _ ?_), hrun, hended, _, _, rfl, ?_, ⟨_, rfl⟩, hW, hsame.mono (by decide) (by decide)⟩
      · exact retN X268 hx (t := .boolean) Bd.returns (by simp) (hb hby at_92) hr
      · show Q_rm0 Z p1 o1 a1 b1 s1 h0 n0 _ T268.heap _
        rw [e268]
        exact ⟨rfl, N268⟩
  · have S271 : ∀ t, Steps p.tables e below (s₁.setTop (mkF m 8 #[.val (.int p1), .val (.int o1), .val (.int a1), .val (.int b1), .val (.int s1), .unset, .unset, .unset, .unset, .unset, .unset] [(.int (2 : Int32)), (.int (2 : Int32))])) t → Steps p.tables e below (s₁.setTop (mkF m 8 #[.val (.int p1), .val (.int o1), .val (.int a1), .val (.int b1), .val (.int s1), .unset, .unset, .unset, .unset, .unset, .unset] [(.int v207), (.int (2 : Int32))])) t := fun t k => by rw [qv207]; exact k
    have S272 : ∀ t, Steps p.tables e below (s₁.setTop (mkF m 9 #[.val (.int p1), .val (.int o1), .val (.int a1), .val (.int b1), .val (.int s1), .unset, .unset, .unset, .unset, .unset, .unset] [(.int ((2 : Int32) <<< ((2 : Int32) &&& 31)))])) t → Steps p.tables e below (s₁.setTop (mkF m 8 #[.val (.int p1), .val (.int o1), .val (.int a1), .val (.int b1), .val (.int s1), .unset, .unset, .unset, .unset, .unset, .unset] [(.int (2 : Int32)), (.int (2 : Int32))])) t := by
      intro t kt
      show Steps p.tables e below (s₁.setTop (mkF m 8 #[.val (.int p1), .val (.int o1), .val (.int a1), .val (.int b1), .val (.int s1), .unset, .unset, .unset, .unset, .unset, .unset] [(.int (2 : Int32)), (.int (2 : Int32))])) _
      refine XS.ishl X0.here hx rfl (hb hby at_8) rfl ?_
      exact kt
    have S273 : ∀ t, Steps p.tables e below (s₁.setTop (mkF m 9 #[.val (.int p1), .val (.int o1), .val (.int a1), .val (.int b1), .val (.int s1), .unset, .unset, .unset, .unset, .unset, .unset] [(.int (8 : Int32))])) t → Steps p.tables e below (s₁.setTop (mkF m 9 #[.val (.int p1), .val (.int o1), .val (.int a1), .val (.int b1), .val (.int s1), .unset, .unset, .unset, .unset, .unset, .unset] [(.int ((2 : Int32) <<< ((2 : Int32) &&& 31)))])) t := fun t k => by rw [(show ((2 : Int32) <<< ((2 : Int32) &&& 31)) = (8 : Int32) from by decide)]; exact k
    have hn : own_sz 8 := by unfold own_sz; omega
    have S276 : ∀ t, Steps p.tables e below (s₁.setTop (mkF m 17 #[.val (.int p1), .val (.int o1), .val (.int a1), .val (.int b1), .val (.int s1), .val (.int (8 : Int32)), .unset, .unset, .unset, .unset, .unset] [(.int b1), (.int a1), (.int p1), (.int (0 : Int32)), (.int (8 : Int32))])) t → Steps p.tables e below (s₁.setTop (mkF m 9 #[.val (.int p1), .val (.int o1), .val (.int a1), .val (.int b1), .val (.int s1), .unset, .unset, .unset, .unset, .unset, .unset] [(.int (8 : Int32))])) t := by
      intro t kt
      show Steps p.tables e below (s₁.setTop (mkF m 9 #[.val (.int p1), .val (.int o1), .val (.int a1), .val (.int b1), .val (.int s1), .unset, .unset, .unset, .unset, .unset, .unset] [(.int (8 : Int32))])) _
      refine XS.istore X0.here hx rfl (hb hby at_9) rfl (l' := #[.val (.int p1), .val (.int o1), .val (.int a1), .val (.int b1), .val (.int s1), .val (.int (8 : Int32)), .unset, .unset, .unset, .unset, .unset]) rfl ?_
      show Steps p.tables e below (s₁.setTop (mkF m 11 #[.val (.int p1), .val (.int o1), .val (.int a1), .val (.int b1), .val (.int s1), .val (.int (8 : Int32)), .unset, .unset, .unset, .unset, .unset] [])) _
      refine XS.iload X0.here hx rfl (hb hby at_11) rfl ?_
      show Steps p.tables e below (s₁.setTop (mkF m 13 #[.val (.int p1), .val (.int o1), .val (.int a1), .val (.int b1), .val (.int s1), .val (.int (8 : Int32)), .unset, .unset, .unset, .unset, .unset] [(.int (8 : Int32))])) _
      refine XS.iconst X0.here hx rfl (hb hby at_13) ?_
      show Steps p.tables e below (s₁.setTop (mkF m 14 #[.val (.int p1), .val (.int o1), .val (.int a1), .val (.int b1), .val (.int s1), .val (.int (8 : Int32)), .unset, .unset, .unset, .unset, .unset] [(.int (0 : Int32)), (.int (8 : Int32))])) _
      refine XS.iloadN X0.here hx rfl (hb hby at_14) rfl ?_
      show Steps p.tables e below (s₁.setTop (mkF m 15 #[.val (.int p1), .val (.int o1), .val (.int a1), .val (.int b1), .val (.int s1), .val (.int (8 : Int32)), .unset, .unset, .unset, .unset, .unset] [(.int p1), (.int (0 : Int32)), (.int (8 : Int32))])) _
      refine XS.iloadN X0.here hx rfl (hb hby at_15) rfl ?_
      show Steps p.tables e below (s₁.setTop (mkF m 16 #[.val (.int p1), .val (.int o1), .val (.int a1), .val (.int b1), .val (.int s1), .val (.int (8 : Int32)), .unset, .unset, .unset, .unset, .unset] [(.int a1), (.int p1), (.int (0 : Int32)), (.int (8 : Int32))])) _
      refine XS.iloadN X0.here hx rfl (hb hby at_16) rfl ?_
      exact kt
    obtain ⟨_, _, ⟨T277, L277, k277, n277⟩, -, X277, ⟨Lc277, hQ277, l277, y277, z277⟩, st277⟩ := Jvm.LawKit.callS X0 hx (y := (⟨"com/example/bough3/bough3/model/PrincipalSlotsSlotOfPinLaw", "table", "(IIIII)[I"⟩ : MethodName)) hown (mvT hZ (hw _ (List.mem_of_getElem? (i := 1) rfl))) (mvT hZ (hw _ (List.mem_of_getElem? (i := 2) rfl))) (mvT hZ (hw _ (List.mem_of_getElem? (i := 3) rfl))) (mvT hZ (hw _ (List.mem_of_getElem? (i := 4) rfl))) (by decide) (backOf (W := 0) (rm_t8 l Z a0 hw [] (0 : Int32) p1 a1 b1 h0 n0 Z0 ) hZ (hw _ (List.mem_of_getElem? (i := 4) rfl)) (hw _ (List.mem_of_getElem? (i := 3) rfl)) (by decide) (by decide)) (g := (mkF m 17 #[.val (.int p1), .val (.int o1), .val (.int a1), .val (.int b1), .val (.int s1), .val (.int (8 : Int32)), .unset, .unset, .unset, .unset, .unset] [(.int b1), (.int a1), (.int p1), (.int (0 : Int32)), (.int (8 : Int32))])) rfl (by rw [hml]; rfl) (argsL := [(.int (8 : Int32)), (.int (0 : Int32)), (.int p1), (.int a1), (.int b1)]) (rest := []) (lenOf pd_3 rfl) rfl (by show 2 * 0 + _ ≤ _; exact Nat.le_of_eq rfl) (hb hby at_17) (fun _ _ => ⟨rfl, e0, (by decide : 0 + 1 ≤ _), (by decide : 0 + 8 ≤ _)⟩)
    dsimp only [Pt.U, Pt.locs, Pt.cells, Pt.slots] at X277 l277 y277 z277 st277 hQ277
    subst l277 y277 z277
    obtain ⟨h277, e277⟩ : ∃ z, T277.heap = z := ⟨_, rfl⟩
    rw [e277] at hQ277
    obtain ⟨b274, rfl, N277q, K277q, hge275, F278⟩ := hQ277
    have z279 : n0 ≤ h277.size := Nat.le_trans Z0 K277q.1
    have N277 := Fr.app N0 N277q
    have S280 : ∀ t, Steps p.tables e below (T277.setTop (mkF m 25 #[.val (.int p1), .val (.int o1), .val (.int a1), .val (.int b1), .val (.int s1), .val (.int (8 : Int32)), .val (.ref b274), .unset, .unset, .unset, .unset] [(.int p1), (.ref b274)])) t → Steps p.tables e below (T277.setTop (mkF m 20 #[.val (.int p1), .val (.int o1), .val (.int a1), .val (.int b1), .val (.int s1), .val (.int (8 : Int32)), .unset, .unset, .unset, .unset, .unset] [(.ref b274)])) t := by
      intro t kt
      show Steps p.tables e below (T277.setTop (mkF m 20 #[.val (.int p1), .val (.int o1), .val (.int a1), .val (.int b1), .val (.int s1), .val (.int (8 : Int32)), .unset, .unset, .unset, .unset, .unset] [(.ref b274)])) _
      refine XS.astore X277.here hx rfl (hb hby at_20) rfl rfl (l' := #[.val (.int p1), .val (.int o1), .val (.int a1), .val (.int b1), .val (.int s1), .val (.int (8 : Int32)), .val (.ref b274), .unset, .unset, .unset, .unset]) rfl ?_
      show Steps p.tables e below (T277.setTop (mkF m 22 #[.val (.int p1), .val (.int o1), .val (.int a1), .val (.int b1), .val (.int s1), .val (.int (8 : Int32)), .val (.ref b274), .unset, .unset, .unset, .unset] [])) _
      refine XS.aload X277.here hx rfl (hb hby at_22) rfl rfl ?_
      show Steps p.tables e below (T277.setTop (mkF m 24 #[.val (.int p1), .val (.int o1), .val (.int a1), .val (.int b1), .val (.int s1), .val (.int (8 : Int32)), .val (.ref b274), .unset, .unset, .unset, .unset] [(.ref b274)])) _
      refine XS.iloadN X277.here hx rfl (hb hby at_24) rfl ?_
      exact kt
    obtain ⟨_, _, ⟨T281, L281, k281, n281⟩, -, X281, ⟨Lc281, hQ281, l281, y281, z281⟩, st281⟩ := Jvm.LawKit.callS X277 hx (y := (⟨"com/example/bough3/bough3/model/PrincipalSlots", "slotOf", "([II)I"⟩ : MethodName)) hown (mvT hZ (hw _ (List.mem_of_getElem? (i := 12) rfl))) (mvT hZ (hw _ (List.mem_of_getElem? (i := 13) rfl))) (mvT hZ (hw _ (List.mem_of_getElem? (i := 14) rfl))) (mvT hZ (hw _ (List.mem_of_getElem? (i := 15) rfl))) (by decide) (backOf (W := 0) (rm4 l Z a0 hw [] b274 p1 8 0 (own_tab (0 : Int32) p1 a1 b1) h277 n0 z279 F278 hn (fun j hj => absurd hj (Nat.not_lt_zero j)) (own_home p1 a1 b1 _)) hZ (hw _ (List.mem_of_getElem? (i := 15) rfl)) (hw _ (List.mem_of_getElem? (i := 14) rfl)) (by decide) (by decide)) (g := (mkF m 25 #[.val (.int p1), .val (.int o1), .val (.int a1), .val (.int b1), .val (.int s1), .val (.int (8 : Int32)), .val (.ref b274), .unset, .unset, .unset, .unset] [(.int p1), (.ref b274)])) rfl (by rw [hml]; rfl) (argsL := [(.ref b274), (.int p1)]) (rest := []) (lenOf pd_4 rfl) rfl (by show 2 * 0 + _ ≤ _; exact Nat.le_of_eq rfl) (hb hby at_25) (fun _ _ => ⟨rfl, e277, (by decide : 1 + 0 ≤ _), (by decide : 8 + 0 ≤ _)⟩)
    dsimp only [Pt.U, Pt.locs, Pt.cells, Pt.slots] at X281 l281 y281 z281 st281 hQ281
    subst l281 y281 z281
    obtain ⟨rfl, N281q, e281⟩ := hQ281
    have N281 := Fr.app N277 N281q
    have S282 : ∀ t, Steps p.tables e below (T281.setTop (mkF m 28 #[.val (.int p1), .val (.int o1), .val (.int a1), .val (.int b1), .val (.int s1), .val (.int (8 : Int32)), .val (.ref b274), .unset, .unset, .unset, .unset] [(.int ((own_hash p1) &&& ((Int32.ofNat 8) - (1 : Int32))))])) t → Steps p.tables e below (T281.setTop (mkF m 28 #[.val (.int p1), .val (.int o1), .val (.int a1), .val (.int b1), .val (.int s1), .val (.int (8 : Int32)), .val (.ref b274), .unset, .unset, .unset, .unset] [(.int (own_it ((Int32.ofNat 8) - (1 : Int32)) 0 ((own_hash p1) &&& ((Int32.ofNat 8) - (1 : Int32)))))])) t := fun t k => by rw [(show (own_it ((Int32.ofNat 8) - (1 : Int32)) 0 ((own_hash p1) &&& ((Int32.ofNat 8) - (1 : Int32)))) = ((own_hash p1) &&& ((Int32.ofNat 8) - (1 : Int32))) from rfl)]; exact k
    obtain ⟨v283, hv283⟩ : ∃ z : Int32, z = ((own_hash p1) &&& ((Int32.ofNat 8) - (1 : Int32))) := ⟨_, rfl⟩
    have S284 : ∀ t, Steps p.tables e below (T281.setTop (mkF m 28 #[.val (.int p1), .val (.int o1), .val (.int a1), .val (.int b1), .val (.int s1), .val (.int (8 : Int32)), .val (.ref b274), .unset, .unset, .unset, .unset] [(.int v283)])) t → Steps p.tables e below (T281.setTop (mkF m 28 #[.val (.int p1), .val (.int o1), .val (.int a1), .val (.int b1), .val (.int s1), .val (.int (8 : Int32)), .val (.ref b274), .unset, .unset, .unset, .unset] [(.int ((own_hash p1) &&& ((Int32.ofNat 8) - (1 : Int32))))])) t := fun t k => by rw [hv283.symm]; exact k
    have hh : 0 ≤ v283.toInt ∧ v283.toInt < (8 : Nat) := by rw [hv283]; have z := own_mask_in (own_hash p1) hn; omega
    have S287 : ∀ t, Steps p.tables e below (T281.setTop (mkF m 50 #[.val (.int p1), .val (.int o1), .val (.int a1), .val (.int b1), .val (.int s1), .val (.int (8 : Int32)), .val (.ref b274), .val (.int v283), .unset, .unset, .unset] [(.int b1), (.int a1), (.int p1), (.int o1), (.int (8 : Int32))])) t → Steps p.tables e below (T281.setTop (mkF m 28 #[.val (.int p1), .val (.int o1), .val (.int a1), .val (.int b1), .val (.int s1), .val (.int (8 : Int32)), .val (.ref b274), .unset, .unset, .unset, .unset] [(.int v283)])) t := by
      intro t kt
      show Steps p.tables e below (T281.setTop (mkF m 28 #[.val (.int p1), .val (.int o1), .val (.int a1), .val (.int b1), .val (.int s1), .val (.int (8 : Int32)), .val (.ref b274), .unset, .unset, .unset, .unset] [(.int v283)])) _
      refine XS.istore X281.here hx rfl (hb hby at_28) rfl (l' := #[.val (.int p1), .val (.int o1), .val (.int a1), .val (.int b1), .val (.int s1), .val (.int (8 : Int32)), .val (.ref b274), .val (.int v283), .unset, .unset, .unset]) rfl ?_
      show Steps p.tables e below (T281.setTop (mkF m 30 #[.val (.int p1), .val (.int o1), .val (.int a1), .val (.int b1), .val (.int s1), .val (.int (8 : Int32)), .val (.ref b274), .val (.int v283), .unset, .unset, .unset] [])) _
      refine XS.iload X281.here hx rfl (hb hby at_30) rfl ?_
      show Steps p.tables e below (T281.setTop (mkF m 32 #[.val (.int p1), .val (.int o1), .val (.int a1), .val (.int b1), .val (.int s1), .val (.int (8 : Int32)), .val (.ref b274), .val (.int v283), .unset, .unset, .unset] [(.int v283)])) _
      refine XS.ifNo X281.here hx rfl (hb hby at_32) rfl ((if0 _ _).trans (flt (by rw [Int32.lt_iff_toInt_lt, show (0 : Int32).toInt = 0 by decide]; omega)).1) ?_
      show Steps p.tables e below (T281.setTop (mkF m 35 #[.val (.int p1), .val (.int o1), .val (.int a1), .val (.int b1), .val (.int s1), .val (.int (8 : Int32)), .val (.ref b274), .val (.int v283), .unset, .unset, .unset] [])) _
      refine XS.iload X281.here hx rfl (hb hby at_35) rfl ?_
      show Steps p.tables e below (T281.setTop (mkF m 37 #[.val (.int p1), .val (.int o1), .val (.int a1), .val (.int b1), .val (.int s1), .val (.int (8 : Int32)), .val (.ref b274), .val (.int v283), .unset, .unset, .unset] [(.int v283)])) _
      refine XS.iload X281.here hx rfl (hb hby at_37) rfl ?_
      show Steps p.tables e below (T281.setTop (mkF m 39 #[.val (.int p1), .val (.int o1), .val (.int a1), .val (.int b1), .val (.int s1), .val (.int (8 : Int32)), .val (.ref b274), .val (.int v283), .unset, .unset, .unset] [(.int (8 : Int32)), (.int v283)])) _
      refine XS.icmpYes X281.here hx rfl (pc0 := 39) (pc' := 44) rfl (hb hby at_39) rfl (tlt (by rw [Int32.lt_iff_toInt_lt, show (8 : Int32).toInt = 8 by decide]; omega)).1 (by decide) (by decide) ?_
      show Steps p.tables e below (T281.setTop (mkF m 44 #[.val (.int p1), .val (.int o1), .val (.int a1), .val (.int b1), .val (.int s1), .val (.int (8 : Int32)), .val (.ref b274), .val (.int v283), .unset, .unset, .unset] [])) _
      refine XS.iload X281.here hx rfl (hb hby at_44) rfl ?_
      show Steps p.tables e below (T281.setTop (mkF m 46 #[.val (.int p1), .val (.int o1), .val (.int a1), .val (.int b1), .val (.int s1), .val (.int (8 : Int32)), .val (.ref b274), .val (.int v283), .unset, .unset, .unset] [(.int (8 : Int32))])) _
      refine XS.iloadN X281.here hx rfl (hb hby at_46) rfl ?_
      show Steps p.tables e below (T281.setTop (mkF m 47 #[.val (.int p1), .val (.int o1), .val (.int a1), .val (.int b1), .val (.int s1), .val (.int (8 : Int32)), .val (.ref b274), .val (.int v283), .unset, .unset, .unset] [(.int o1), (.int (8 : Int32))])) _
      refine XS.iloadN X281.here hx rfl (hb hby at_47) rfl ?_
      show Steps p.tables e below (T281.setTop (mkF m 48 #[.val (.int p1), .val (.int o1), .val (.int a1), .val (.int b1), .val (.int s1), .val (.int (8 : Int32)), .val (.ref b274), .val (.int v283), .unset, .unset, .unset] [(.int p1), (.int o1), (.int (8 : Int32))])) _
      refine XS.iloadN X281.here hx rfl (hb hby at_48) rfl ?_
      show Steps p.tables e below (T281.setTop (mkF m 49 #[.val (.int p1), .val (.int o1), .val (.int a1), .val (.int b1), .val (.int s1), .val (.int (8 : Int32)), .val (.ref b274), .val (.int v283), .unset, .unset, .unset] [(.int a1), (.int p1), (.int o1), (.int (8 : Int32))])) _
      refine XS.iloadN X281.here hx rfl (hb hby at_49) rfl ?_
      exact kt
    obtain ⟨_, _, ⟨T288, L288, k288, n288⟩, -, X288, ⟨Lc288, hQ288, l288, y288, z288⟩, st288⟩ := Jvm.LawKit.callS X281 hx (y := (⟨"com/example/bough3/bough3/model/PrincipalSlotsSlotOfPinLaw", "table", "(IIIII)[I"⟩ : MethodName)) hown (mvT hZ (hw _ (List.mem_of_getElem? (i := 1) rfl))) (mvT hZ (hw _ (List.mem_of_getElem? (i := 2) rfl))) (mvT hZ (hw _ (List.mem_of_getElem? (i := 3) rfl))) (mvT hZ (hw _ (List.mem_of_getElem? (i := 4) rfl))) (by decide) (backOf (W := 0) (rm_t8 l Z a0 hw [] o1 p1 a1 b1 h277 n0 z279 ) hZ (hw _ (List.mem_of_getElem? (i := 4) rfl)) (hw _ (List.mem_of_getElem? (i := 3) rfl)) (by decide) (by decide)) (g := (mkF m 50 #[.val (.int p1), .val (.int o1), .val (.int a1), .val (.int b1), .val (.int s1), .val (.int (8 : Int32)), .val (.ref b274), .val (.int v283), .unset, .unset, .unset] [(.int b1), (.int a1), (.int p1), (.int o1), (.int (8 : Int32))])) rfl (by rw [hml]; rfl) (argsL := [(.int (8 : Int32)), (.int o1), (.int p1), (.int a1), (.int b1)]) (rest := []) (lenOf pd_3 rfl) rfl (by show 2 * 0 + _ ≤ _; exact Nat.le_of_eq rfl) (hb hby at_50) (fun _ _ => ⟨rfl, e281, (by decide : 1 + 1 ≤ _), (by decide : 8 + 8 ≤ _)⟩)
    dsimp only [Pt.U, Pt.locs, Pt.cells, Pt.slots] at X288 l288 y288 z288 st288 hQ288
    subst l288 y288 z288
    obtain ⟨h288, e288⟩ : ∃ z, T288.heap = z := ⟨_, rfl⟩
    rw [e288] at hQ288
    obtain ⟨b285, rfl, N288q, K288q, hge286, F289⟩ := hQ288
    have z290 : n0 ≤ h288.size := Nat.le_trans z279 K288q.1
    have N288 := Fr.app N281 N288q
    have S291 : ∀ t, Steps p.tables e below (T288.setTop (mkF m 60 #[.val (.int p1), .val (.int o1), .val (.int a1), .val (.int b1), .val (.int s1), .val (.int (8 : Int32)), .val (.ref b274), .val (.int v283), .val (.ref b285), .unset, .unset] [(.int v283), (.int p1), (.ref b285)])) t → Steps p.tables e below (T288.setTop (mkF m 53 #[.val (.int p1), .val (.int o1), .val (.int a1), .val (.int b1), .val (.int s1), .val (.int (8 : Int32)), .val (.ref b274), .val (.int v283), .unset, .unset, .unset] [(.ref b285)])) t := by
      intro t kt
      show Steps p.tables e below (T288.setTop (mkF m 53 #[.val (.int p1), .val (.int o1), .val (.int a1), .val (.int b1), .val (.int s1), .val (.int (8 : Int32)), .val (.ref b274), .val (.int v283), .unset, .unset, .unset] [(.ref b285)])) _
      refine XS.astore X288.here hx rfl (hb hby at_53) rfl rfl (l' := #[.val (.int p1), .val (.int o1), .val (.int a1), .val (.int b1), .val (.int s1), .val (.int (8 : Int32)), .val (.ref b274), .val (.int v283), .val (.ref b285), .unset, .unset]) rfl ?_
      show Steps p.tables e below (T288.setTop (mkF m 55 #[.val (.int p1), .val (.int o1), .val (.int a1), .val (.int b1), .val (.int s1), .val (.int (8 : Int32)), .val (.ref b274), .val (.int v283), .val (.ref b285), .unset, .unset] [])) _
      refine XS.aload X288.here hx rfl (hb hby at_55) rfl rfl ?_
      show Steps p.tables e below (T288.setTop (mkF m 57 #[.val (.int p1), .val (.int o1), .val (.int a1), .val (.int b1), .val (.int s1), .val (.int (8 : Int32)), .val (.ref b274), .val (.int v283), .val (.ref b285), .unset, .unset] [(.ref b285)])) _
      refine XS.iloadN X288.here hx rfl (hb hby at_57) rfl ?_
      show Steps p.tables e below (T288.setTop (mkF m 58 #[.val (.int p1), .val (.int o1), .val (.int a1), .val (.int b1), .val (.int s1), .val (.int (8 : Int32)), .val (.ref b274), .val (.int v283), .val (.ref b285), .unset, .unset] [(.int p1), (.ref b285)])) _
      refine XS.iload X288.here hx rfl (hb hby at_58) rfl ?_
      exact kt
    obtain ⟨_, _, ⟨T292, L292, k292, n292⟩, -, X292, ⟨Lc292, hQ292, l292, y292, z292⟩, st292⟩ := Jvm.LawKit.callS X288 hx (y := (⟨"com/example/bough3/bough3/model/PrincipalSlotsSlotOfPinLaw", "firstFrom", "([III)I"⟩ : MethodName)) hown (mvT hZ (hw _ (List.mem_of_getElem? (i := 17) rfl))) (mvT hZ (hw _ (List.mem_of_getElem? (i := 18) rfl))) (mvT hZ (hw _ (List.mem_of_getElem? (i := 3) rfl))) (mvT hZ (hw _ (List.mem_of_getElem? (i := 19) rfl))) (by decide) (backOf (W := 0) (rm5 l Z a0 hw [] b285 p1 v283 8 (own_tab o1 p1 a1 b1) h288 n0 z290 F289 hn) hZ (hw _ (List.mem_of_getElem? (i := 19) rfl)) (hw _ (List.mem_of_getElem? (i := 3) rfl)) (by decide) (by decide)) (g := (mkF m 60 #[.val (.int p1), .val (.int o1), .val (.int a1), .val (.int b1), .val (.int s1), .val (.int (8 : Int32)), .val (.ref b274), .val (.int v283), .val (.ref b285), .unset, .unset] [(.int v283), (.int p1), (.ref b285)])) rfl (by rw [hml]; rfl) (argsL := [(.ref b285), (.int p1), (.int v283)]) (rest := []) (lenOf pd_5 rfl) rfl (by show 2 * 0 + _ ≤ _; exact Nat.le_of_eq rfl) (hb hby at_60) (fun _ _ => ⟨rfl, e288, (by decide : 2 + 0 ≤ _), (by decide : 16 + 0 ≤ _)⟩)
    dsimp only [Pt.U, Pt.locs, Pt.cells, Pt.slots] at X292 l292 y292 z292 st292 hQ292
    subst l292 y292 z292
    obtain ⟨rfl, N292q, e292⟩ := hQ292
    have N292 := Fr.app N288 N292q
    have S293 : ∀ t, Steps p.tables e below (T292.setTop (mkF m 67 #[.val (.int p1), .val (.int o1), .val (.int a1), .val (.int b1), .val (.int s1), .val (.int (8 : Int32)), .val (.ref b274), .val (.int v283), .val (.ref b285), .val (.int (own_ff (own_G (own_tab o1 p1 a1 b1)) v283 ((Int32.ofNat 8) - (1 : Int32)) p1)), .unset] [(.int (own_ff (own_G (own_tab o1 p1 a1 b1)) v283 ((Int32.ofNat 8) - (1 : Int32)) p1))])) t → Steps p.tables e below (T292.setTop (mkF m 63 #[.val (.int p1), .val (.int o1), .val (.int a1), .val (.int b1), .val (.int s1), .val (.int (8 : Int32)), .val (.ref b274), .val (.int v283), .val (.ref b285), .unset, .unset] [(.int (own_ff (own_G (own_tab o1 p1 a1 b1)) v283 ((Int32.ofNat 8) - (1 : Int32)) p1))])) t := by
      intro t kt
      show Steps p.tables e below (T292.setTop (mkF m 63 #[.val (.int p1), .val (.int o1), .val (.int a1), .val (.int b1), .val (.int s1), .val (.int (8 : Int32)), .val (.ref b274), .val (.int v283), .val (.ref b285), .unset, .unset] [(.int (own_ff (own_G (own_tab o1 p1 a1 b1)) v283 ((Int32.ofNat 8) - (1 : Int32)) p1))])) _
      refine XS.istore X292.here hx rfl (hb hby at_63) rfl (l' := #[.val (.int p1), .val (.int o1), .val (.int a1), .val (.int b1), .val (.int s1), .val (.int (8 : Int32)), .val (.ref b274), .val (.int v283), .val (.ref b285), .val (.int (own_ff (own_G (own_tab o1 p1 a1 b1)) v283 ((Int32.ofNat 8) - (1 : Int32)) p1)), .unset]) rfl ?_
      show Steps p.tables e below (T292.setTop (mkF m 65 #[.val (.int p1), .val (.int o1), .val (.int a1), .val (.int b1), .val (.int s1), .val (.int (8 : Int32)), .val (.ref b274), .val (.int v283), .val (.ref b285), .val (.int (own_ff (own_G (own_tab o1 p1 a1 b1)) v283 ((Int32.ofNat 8) - (1 : Int32)) p1)), .unset] [])) _
      refine XS.iload X292.here hx rfl (hb hby at_65) rfl ?_
      exact kt
    by_cases hc294 : (own_ff (own_G (own_tab o1 p1 a1 b1)) v283 ((Int32.ofNat 8) - (1 : Int32)) p1) < (0 : Int32)
    · have S295 : ∀ t, Steps p.tables e below (T292.setTop (mkF m 71 #[.val (.int p1), .val (.int o1), .val (.int a1), .val (.int b1), .val (.int s1), .val (.int (8 : Int32)), .val (.ref b274), .val (.int v283), .val (.ref b285), .val (.int (own_ff (own_G (own_tab o1 p1 a1 b1)) v283 ((Int32.ofNat 8) - (1 : Int32)) p1)), .unset] [(.int (1 : Int32))])) t → Steps p.tables e below (T292.setTop (mkF m 67 #[.val (.int p1), .val (.int o1), .val (.int a1), .val (.int b1), .val (.int s1), .val (.int (8 : Int32)), .val (.ref b274), .val (.int v283), .val (.ref b285), .val (.int (own_ff (own_G (own_tab o1 p1 a1 b1)) v283 ((Int32.ofNat 8) - (1 : Int32)) p1)), .unset] [(.int (own_ff (own_G (own_tab o1 p1 a1 b1)) v283 ((Int32.ofNat 8) - (1 : Int32)) p1))])) t := by
        intro t kt
        show Steps p.tables e below (T292.setTop (mkF m 67 #[.val (.int p1), .val (.int o1), .val (.int a1), .val (.int b1), .val (.int s1), .val (.int (8 : Int32)), .val (.ref b274), .val (.int v283), .val (.ref b285), .val (.int (own_ff (own_G (own_tab o1 p1 a1 b1)) v283 ((Int32.ofNat 8) - (1 : Int32)) p1)), .unset] [(.int (own_ff (own_G (own_tab o1 p1 a1 b1)) v283 ((Int32.ofNat 8) - (1 : Int32)) p1))])) _
        refine XS.ifNo X292.here hx rfl (hb hby at_67) rfl ((if0 _ _).trans (tlt hc294).2.1) ?_
        show Steps p.tables e below (T292.setTop (mkF m 70 #[.val (.int p1), .val (.int o1), .val (.int a1), .val (.int b1), .val (.int s1), .val (.int (8 : Int32)), .val (.ref b274), .val (.int v283), .val (.ref b285), .val (.int (own_ff (own_G (own_tab o1 p1 a1 b1)) v283 ((Int32.ofNat 8) - (1 : Int32)) p1)), .unset] [])) _
        refine XS.iconst X292.here hx rfl (hb hby at_70) ?_
        exact kt
      have C296 : ∀ t, Steps p.tables e below (T292.setTop (mkF m 71 #[.val (.int p1), .val (.int o1), .val (.int a1), .val (.int b1), .val (.int s1), .val (.int (8 : Int32)), .val (.ref b274), .val (.int v283), .val (.ref b285), .val (.int (own_ff (own_G (own_tab o1 p1 a1 b1)) v283 ((Int32.ofNat 8) - (1 : Int32)) p1)), .unset] [(.int (1 : Int32))])) t → Steps p.tables e below (s₁.setTop (mkF m 0 #[.val (.int p1), .val (.int o1), .val (.int a1), .val (.int b1), .val (.int s1), .unset, .unset, .unset, .unset, .unset, .unset] [])) t := (fun t k => (C210 t (S271 t (S272 t (S273 t (S276 t (st277 t (S280 t (st281 t (S282 t (S284 t (S287 t (st288 t (S291 t (st292 t (S293 t (S295 t k)))))))))))))))))
      obtain ⟨fs, hr, hrun, hended, hW, hsame⟩ := X292.leave (v := some (.int (1 : Int32))) (fun h => by rw [Bd.returns] at h; cases h)
      refine ⟨_, _, pre0 _ (C296 _ ?_), hrun, hended, _, _, rfl, ?_, ⟨_, rfl⟩, hW, hsame.mono (by decide) (by decide)⟩
      · exact retN X292 hx (t := .boolean) Bd.returns (by simp) (hb hby at_71) hr
      · show Q_rm0 Z p1 o1 a1 b1 s1 h0 n0 _ T292.heap _
        rw [e292]
        exact ⟨rfl, N292⟩
    · obtain ⟨k, hno, hst, hfe⟩ := own_found (own_G (own_tab o1 p1 a1 b1)) v283 p1 hn hh hc294
      rw [hv283] at hno hst
      have S297 : ∀ t, Steps p.tables e below (T292.setTop (mkF m 75 #[.val (.int p1), .val (.int o1), .val (.int a1), .val (.int b1), .val (.int s1), .val (.int (8 : Int32)), .val (.ref b274), .val (.int v283), .val (.ref b285), .val (.int (own_ff (own_G (own_tab o1 p1 a1 b1)) v283 ((Int32.ofNat 8) - (1 : Int32)) p1)), .unset] [(.int p1), (.ref b285)])) t → Steps p.tables e below (T292.setTop (mkF m 67 #[.val (.int p1), .val (.int o1), .val (.int a1), .val (.int b1), .val (.int s1), .val (.int (8 : Int32)), .val (.ref b274), .val (.int v283), .val (.ref b285), .val (.int (own_ff (own_G (own_tab o1 p1 a1 b1)) v283 ((Int32.ofNat 8) - (1 : Int32)) p1)), .unset] [(.int (own_ff (own_G (own_tab o1 p1 a1 b1)) v283 ((Int32.ofNat 8) - (1 : Int32)) p1))])) t := by
        intro t kt
        show Steps p.tables e below (T292.setTop (mkF m 67 #[.val (.int p1), .val (.int o1), .val (.int a1), .val (.int b1), .val (.int s1), .val (.int (8 : Int32)), .val (.ref b274), .val (.int v283), .val (.ref b285), .val (.int (own_ff (own_G (own_tab o1 p1 a1 b1)) v283 ((Int32.ofNat 8) - (1 : Int32)) p1)), .unset] [(.int (own_ff (own_G (own_tab o1 p1 a1 b1)) v283 ((Int32.ofNat 8) - (1 : Int32)) p1))])) _
        refine XS.ifYes X292.here hx rfl (pc0 := 67) (pc' := 72) rfl (hb hby at_67) rfl ((if0 _ _).trans (flt hc294).2.1) (by decide) (by decide) ?_
        show Steps p.tables e below (T292.setTop (mkF m 72 #[.val (.int p1), .val (.int o1), .val (.int a1), .val (.int b1), .val (.int s1), .val (.int (8 : Int32)), .val (.ref b274), .val (.int v283), .val (.ref b285), .val (.int (own_ff (own_G (own_tab o1 p1 a1 b1)) v283 ((Int32.ofNat 8) - (1 : Int32)) p1)), .unset] [])) _
        refine XS.aload X292.here hx rfl (hb hby at_72) rfl rfl ?_
        show Steps p.tables e below (T292.setTop (mkF m 74 #[.val (.int p1), .val (.int o1), .val (.int a1), .val (.int b1), .val (.int s1), .val (.int (8 : Int32)), .val (.ref b274), .val (.int v283), .val (.ref b285), .val (.int (own_ff (own_G (own_tab o1 p1 a1 b1)) v283 ((Int32.ofNat 8) - (1 : Int32)) p1)), .unset] [(.ref b285)])) _
        refine XS.iloadN X292.here hx rfl (hb hby at_74) rfl ?_
        exact kt
      obtain ⟨_, _, ⟨T298, L298, k298, n298⟩, -, X298, ⟨Lc298, hQ298, l298, y298, z298⟩, st298⟩ := Jvm.LawKit.callS X292 hx (y := (⟨"com/example/bough3/bough3/model/PrincipalSlots", "slotOf", "([II)I"⟩ : MethodName)) hown (mvT hZ (hw _ (List.mem_of_getElem? (i := 12) rfl))) (mvT hZ (hw _ (List.mem_of_getElem? (i := 13) rfl))) (mvT hZ (hw _ (List.mem_of_getElem? (i := 14) rfl))) (mvT hZ (hw _ (List.mem_of_getElem? (i := 15) rfl))) (by decide) (backOf (W := 0) (rm4 l Z a0 hw [] b285 p1 8 k (own_tab o1 p1 a1 b1) h288 n0 z290 F289 hn hno hst) hZ (hw _ (List.mem_of_getElem? (i := 15) rfl)) (hw _ (List.mem_of_getElem? (i := 14) rfl)) (by decide) (by decide)) (g := (mkF m 75 #[.val (.int p1), .val (.int o1), .val (.int a1), .val (.int b1), .val (.int s1), .val (.int (8 : Int32)), .val (.ref b274), .val (.int v283), .val (.ref b285), .val (.int (own_ff (own_G (own_tab o1 p1 a1 b1)) v283 ((Int32.ofNat 8) - (1 : Int32)) p1)), .unset] [(.int p1), (.ref b285)])) rfl (by rw [hml]; rfl) (argsL := [(.ref b285), (.int p1)]) (rest := []) (lenOf pd_4 rfl) rfl (by show 2 * 0 + _ ≤ _; exact Nat.le_of_eq rfl) (hb hby at_75) (fun _ _ => ⟨rfl, e292, (by decide : 2 + 0 ≤ _), (by decide : 16 + 0 ≤ _)⟩)
      dsimp only [Pt.U, Pt.locs, Pt.cells, Pt.slots] at X298 l298 y298 z298 st298 hQ298
      subst l298 y298 z298
      obtain ⟨rfl, N298q, e298⟩ := hQ298
      have N298 := Fr.app N292 N298q
      have S299 : ∀ t, Steps p.tables e below (T298.setTop (mkF m 92 #[.val (.int p1), .val (.int o1), .val (.int a1), .val (.int b1), .val (.int s1), .val (.int (8 : Int32)), .val (.ref b274), .val (.int v283), .val (.ref b285), .val (.int (own_ff (own_G (own_tab o1 p1 a1 b1)) v283 ((Int32.ofNat 8) - (1 : Int32)) p1)), .val (.int (own_it ((Int32.ofNat 8) - (1 : Int32)) k ((own_hash p1) &&& ((Int32.ofNat 8) - (1 : Int32)))))] [(.int (1 : Int32))])) t → Steps p.tables e below (T298.setTop (mkF m 78 #[.val (.int p1), .val (.int o1), .val (.int a1), .val (.int b1), .val (.int s1), .val (.int (8 : Int32)), .val (.ref b274), .val (.int v283), .val (.ref b285), .val (.int (own_ff (own_G (own_tab o1 p1 a1 b1)) v283 ((Int32.ofNat 8) - (1 : Int32)) p1)), .unset] [(.int (own_it ((Int32.ofNat 8) - (1 : Int32)) k ((own_hash p1) &&& ((Int32.ofNat 8) - (1 : Int32)))))])) t := by
        intro t kt
        show Steps p.tables e below (T298.setTop (mkF m 78 #[.val (.int p1), .val (.int o1), .val (.int a1), .val (.int b1), .val (.int s1), .val (.int (8 : Int32)), .val (.ref b274), .val (.int v283), .val (.ref b285), .val (.int (own_ff (own_G (own_tab o1 p1 a1 b1)) v283 ((Int32.ofNat 8) - (1 : Int32)) p1)), .unset] [(.int (own_it ((Int32.ofNat 8) - (1 : Int32)) k ((own_hash p1) &&& ((Int32.ofNat 8) - (1 : Int32)))))])) _
        refine XS.istore X298.here hx rfl (hb hby at_78) rfl (l' := #[.val (.int p1), .val (.int o1), .val (.int a1), .val (.int b1), .val (.int s1), .val (.int (8 : Int32)), .val (.ref b274), .val (.int v283), .val (.ref b285), .val (.int (own_ff (own_G (own_tab o1 p1 a1 b1)) v283 ((Int32.ofNat 8) - (1 : Int32)) p1)), .val (.int (own_it ((Int32.ofNat 8) - (1 : Int32)) k ((own_hash p1) &&& ((Int32.ofNat 8) - (1 : Int32)))))]) rfl ?_
        show Steps p.tables e below (T298.setTop (mkF m 80 #[.val (.int p1), .val (.int o1), .val (.int a1), .val (.int b1), .val (.int s1), .val (.int (8 : Int32)), .val (.ref b274), .val (.int v283), .val (.ref b285), .val (.int (own_ff (own_G (own_tab o1 p1 a1 b1)) v283 ((Int32.ofNat 8) - (1 : Int32)) p1)), .val (.int (own_it ((Int32.ofNat 8) - (1 : Int32)) k ((own_hash p1) &&& ((Int32.ofNat 8) - (1 : Int32)))))] [])) _
        refine XS.iload X298.here hx rfl (hb hby at_80) rfl ?_
        show Steps p.tables e below (T298.setTop (mkF m 82 #[.val (.int p1), .val (.int o1), .val (.int a1), .val (.int b1), .val (.int s1), .val (.int (8 : Int32)), .val (.ref b274), .val (.int v283), .val (.ref b285), .val (.int (own_ff (own_G (own_tab o1 p1 a1 b1)) v283 ((Int32.ofNat 8) - (1 : Int32)) p1)), .val (.int (own_it ((Int32.ofNat 8) - (1 : Int32)) k ((own_hash p1) &&& ((Int32.ofNat 8) - (1 : Int32)))))] [(.int (own_it ((Int32.ofNat 8) - (1 : Int32)) k ((own_hash p1) &&& ((Int32.ofNat 8) - (1 : Int32)))))])) _
        refine XS.iload X298.here hx rfl (hb hby at_82) rfl ?_
        show Steps p.tables e below (T298.setTop (mkF m 84 #[.val (.int p1), .val (.int o1), .val (.int a1), .val (.int b1), .val (.int s1), .val (.int (8 : Int32)), .val (.ref b274), .val (.int v283), .val (.ref b285), .val (.int (own_ff (own_G (own_tab o1 p1 a1 b1)) v283 ((Int32.ofNat 8) - (1 : Int32)) p1)), .val (.int (own_it ((Int32.ofNat 8) - (1 : Int32)) k ((own_hash p1) &&& ((Int32.ofNat 8) - (1 : Int32)))))] [(.int (own_ff (own_G (own_tab o1 p1 a1 b1)) v283 ((Int32.ofNat 8) - (1 : Int32)) p1)), (.int (own_it ((Int32.ofNat 8) - (1 : Int32)) k ((own_hash p1) &&& ((Int32.ofNat 8) - (1 : Int32)))))])) _
        refine XS.icmpNo X298.here hx rfl (hb hby at_84) rfl (teq (show (own_it ((Int32.ofNat 8) - (1 : Int32)) k ((own_hash p1) &&& ((Int32.ofNat 8) - (1 : Int32)))) = (own_ff (own_G (own_tab o1 p1 a1 b1)) v283 ((Int32.ofNat 8) - (1 : Int32)) p1) from by rw [hfe, hv283])).2 ?_
        show Steps p.tables e below (T298.setTop (mkF m 87 #[.val (.int p1), .val (.int o1), .val (.int a1), .val (.int b1), .val (.int s1), .val (.int (8 : Int32)), .val (.ref b274), .val (.int v283), .val (.ref b285), .val (.int (own_ff (own_G (own_tab o1 p1 a1 b1)) v283 ((Int32.ofNat 8) - (1 : Int32)) p1)), .val (.int (own_it ((Int32.ofNat 8) - (1 : Int32)) k ((own_hash p1) &&& ((Int32.ofNat 8) - (1 : Int32)))))] [])) _
        refine XS.iconst X298.here hx rfl (hb hby at_87) ?_
        show Steps p.tables e below (T298.setTop (mkF m 88 #[.val (.int p1), .val (.int o1), .val (.int a1), .val (.int b1), .val (.int s1), .val (.int (8 : Int32)), .val (.ref b274), .val (.int v283), .val (.ref b285), .val (.int (own_ff (own_G (own_tab o1 p1 a1 b1)) v283 ((Int32.ofNat 8) - (1 : Int32)) p1)), .val (.int (own_it ((Int32.ofNat 8) - (1 : Int32)) k ((own_hash p1) &&& ((Int32.ofNat 8) - (1 : Int32)))))] [(.int (1 : Int32))])) _
        refine XS.goto X298.here hx rfl (pc0 := 88) (pc' := 92) rfl (hb hby at_88) (by decide) (by decide) ?_
        exact kt
      have C300 : ∀ t, Steps p.tables e below (T298.setTop (mkF m 92 #[.val (.int p1), .val (.int o1), .val (.int a1), .val (.int b1), .val (.int s1), .val (.int (8 : Int32)), .val (.ref b274), .val (.int v283), .val (.ref b285), .val (.int (own_ff (own_G (own_tab o1 p1 a1 b1)) v283 ((Int32.ofNat 8) - (1 : Int32)) p1)), .val (.int (own_it ((Int32.ofNat 8) - (1 : Int32)) k ((own_hash p1) &&& ((Int32.ofNat 8) - (1 : Int32)))))] [(.int (1 : Int32))])) t → Steps p.tables e below (s₁.setTop (mkF m 0 #[.val (.int p1), .val (.int o1), .val (.int a1), .val (.int b1), .val (.int s1), .unset, .unset, .unset, .unset, .unset, .unset] [])) t := (fun t k => (C210 t (S271 t (S272 t (S273 t (S276 t (st277 t (S280 t (st281 t (S282 t (S284 t (S287 t (st288 t (S291 t (st292 t (S293 t (S297 t (st298 t (S299 t k)))))))))))))))))))
      obtain ⟨fs, hr, hrun, hended, hW, hsame⟩ := X298.leave (v := some (.int (1 : Int32))) (fun h => by rw [Bd.returns] at h; cases h)
      refine ⟨_, _, pre0 _ (C300 _ ?_), hrun, hended, _, _, rfl, ?_, ⟨_, rfl⟩, hW, hsame.mono (by decide) (by decide)⟩
      · exact retN X298 hx (t := .boolean) Bd.returns (by simp) (hb hby at_92) hr
      · show Q_rm0 Z p1 o1 a1 b1 s1 h0 n0 _ T298.heap _
        rw [e298]
        exact ⟨rfl, N298⟩
set_option maxRecDepth 65536 in
set_option maxHeartbeats 40000000 in
theorem comes_1 {Post : Tables → Env → Array Value → State → Outcome → State → Prop} (hpost : ∀ tb e args s v u, (limb_1_1.after args s (.returned v) u = true ∧ limb_1_2.after args s (.returned v) u = true ∧ True) → FrameEnd s (.returned v) u (Jvm.fieldLocs frame_1_writes args s ++ Jvm.arrayLocs frame_1_arrays args s ++ Jvm.staticLocs frame_1_statics s) 16 128 → Post tb e args s (.returned v) u) :
    ArmFor flags0 classFile x code maxLocals ret World_1 tables_1 room_1 Calls_1 rest_1 Pre_1 Post := by
  intro l hfl _ _ p e ha hc hk s m args below hf hA hF happ hP
  obtain ⟨hcalls, hrest, hpre⟩ := hP
  obtain ⟨-, -, -, hnamed, -, -, -, hat⟩ := (Spec.applies_iff hf).mp happ
  obtain ⟨hg, hn⟩ := and_e (Cond.before_iff.mp (show (Jvm.Cond.and given_1 narrow_1).before args s = true from hpre))
  obtain ⟨gg1, gg2⟩ := and_e hg
  obtain ⟨gg3, gg4⟩ := and_e gg2
  obtain ⟨gg5, gg6⟩ := and_e gg4
  obtain ⟨gg7, gg8⟩ := and_e gg6
  obtain ⟨gg9, gg10⟩ := and_e gg8
  obtain ⟨w0, w1, w2, w3, w4, rfl⟩ : ∃ w0 w1 w2 w3 w4 : Value, args = #[w0, w1, w2, w3, w4] := by
    have hs : args.size = 5 := by simpa [Cond.value, given_1] using gg1
    obtain ⟨L⟩ := args
    match L, hs with
    | [w0, w1, w2, w3, w4], _ => exact ⟨w0, w1, w2, w3, w4, rfl⟩
  have hw := fun d (hd : d ∈ tables_1) => atoms_spec (ws := Jvm.Cond.code x code maxLocals ret :: tables_1) hat d (List.mem_cons_of_mem _ hd)
  have hfit : Fit s := fun {y c} hc i hi => by
    obtain ⟨ha, rfl⟩ := Array.getElem?_eq_some_iff.mp hc
    have q := List.all_eq_true.mp ((Array.all_eq_true_iff_forall_mem.mp hF) _ (Array.getElem_mem ha)) i (List.mem_range.mpr hi)
    simpa [Array.getElem?_eq_getElem hi] using q
  obtain ⟨i0, ei0⟩ := is_v gg3
  obtain rfl : w0 = (.int i0) := Option.some.inj ei0
  obtain ⟨i1, ei1⟩ := is_v gg5
  obtain rfl : w1 = (.int i1) := Option.some.inj ei1
  obtain ⟨i2, ei2⟩ := is_v gg7
  obtain rfl : w2 = (.int i2) := Option.some.inj ei2
  obtain ⟨i3, ei3⟩ := is_v gg9
  obtain rfl : w3 = (.int i3) := Option.some.inj ei3
  obtain ⟨i4, ei4⟩ := is_v gg10
  obtain rfl : w4 = (.int i4) := Option.some.inj ei4
  obtain ⟨n, o, h1, h2, h3, _, L, rfl, ⟨rfl, N⟩, hq⟩ := rm0 l s _ hw tables_1 i0 i1 i2 i3 i4 s.heap s.heap.size (Nat.le_refl _)  p e ha hc hk s m _ below hf ((Spec.applies_iff_loose hf).mp happ).1 ⟨rfl, State.Warmed39.refl s, rfl⟩ trivial
  refine ⟨n, _, h1, h2, h3, hpost _ _ _ _ _ _ ⟨Cond.after_iff.mpr rfl, Cond.after_iff.mpr (eq_i res_at (Term.int_eval (1)) rfl), trivial⟩ ⟨hq.1, hq.2.1, (hq.2.2.sift fun y hy => Or.inr (N y hy)).mono (by decide) (by decide)⟩⟩
theorem main_1_1 : Claimed_1_1 := comes_1 fun _ _ _ _ _ _ h hF => ⟨h.1, hF⟩
theorem main_1_2 : Claimed_1_2 := comes_1 fun _ _ _ _ _ _ h hF => ⟨h.2.1, hF⟩
end Jvm.Pilot.@@N@@
namespace Jvm.Pilot.@@N@@
open Jvm Jvm.ClassFile Sem Op Lib Jvm.Free Jvm.Stand Jvm.Pilot.@@N@@.Jvm.D
/-! MADE BY PROGRAM (witnessworld.py) out of the Statement's table words and the real class files: 9 classes; the members and pool entries that the words name. The judged class is class 1, her method 6. -/
namespace start1
open Jvm.ClassFile
def u (s : String) : CpInfo := .utf8 (stringToUtf16 s)
/-- a pool by its gaps: so many unusable entries, then the entry; so many at the end -/
def gap : Nat → List CpInfo → List CpInfo
  | 0, r => r
  | n + 1, r => .unusable :: gap n r
def poolList (es : List (Nat × CpInfo)) (last : Nat) : List CpInfo := es.foldr (fun e r => gap e.1 (e.2 :: r)) (gap last [])
def pool (es : List (Nat × CpInfo)) (last : Nat) : Array CpInfo := ⟨poolList es last⟩
def fileOf (pool : Array CpInfo) (this : Nat) (attrs : Array Attribute := #[]) (ms : Array MethodInfo := #[]) (fl : Nat := 33) (sup : Nat := 0) (ifs : Array Nat := #[]) (fds : Array FieldInfo := #[]) : ClassFile where
  minorVersion := 0
  majorVersion := 65
  constantPool := pool
  accessFlags := fl
  thisClass := this
  superClass := sup
  interfaces := ifs
  fields := fds
  methods := ms
  attributes := attrs
def plain (name : String) (sup : Option ClassId) : Class where
  name := name
  kind := .ordinary
  loader := none
  accessFlags := 33
  super := sup
  interfaces := #[]
  cf := none
  fields := #[]
  methods := #[]
  instanceTypes := #[]
  staticTypes := #[]
  resolved := #[]
  callSites := []
  init := .initialized
  statics := none
  mirror := none

def pool0 : Array CpInfo := pool [(5, u "<init>"), (0, u "()V"), (1, .class_ 10), (1, u "java/lang/Object")] 113

def k0m0 : Method := { name := "<init>", desc := "()V", sig := { parameters := [], returnType := none }, accessFlags := 1, code := none }
/-- java/lang/Object -/
def k0 : Class := { plain "java/lang/Object" none with
  accessFlags := 33
  interfaces := #[]
  cf := some (fileOf pool0 8 #[] #[{ accessFlags := 1, nameIndex := 5, descriptorIndex := 6, attributes := #[] }] 33 0 #[] #[])
  fields := #[]
  methods := #[k0m0]
  instanceTypes := #[]
  staticTypes := #[]
  resolved := Array.replicate 124 none
  statics := none }

def pool1 : Array CpInfo := pool [(2, .class_ 4), (1, u "java/lang/Object"), (0, u "<init>"), (0, u "()V"), (0, .class_ 8), (0, u "com/example/bough3/bough3/model/PrincipalSlots"), (0, .methodref 10 11), (0, .class_ 12), (0, .nameAndType 13 14), (0, u "com/example/bough3/bough3/model/PrincipalSlotsSlotOfPinLaw"), (0, u "code"), (0, u "(II)I"), (0, .methodref 10 16), (0, .nameAndType 17 18), (0, u "value"), (0, u "(IIII)I"), (0, .methodref 10 20), (0, .nameAndType 21 22), (0, u "stops"), (0, u "([III)Z"), (0, .integer 2147483647), (0, .methodref 10 25), (0, .nameAndType 26 27), (0, u "table"), (0, u "(IIIII)[I"), (0, .methodref 7 29), (0, .nameAndType 30 31), (0, u "slotOf"), (0, u "([II)I"), (0, .methodref 10 33), (0, .nameAndType 34 35), (0, u "firstFrom"), (0, u "([III)I"), (5, u "law"), (0, u "(IIIII)Z")] 2

def k1m0 : Method := { name := "<init>", desc := "()V", sig := { parameters := [], returnType := none }, accessFlags := 1, code := none }
def k1c1 : Code := { maxStack := 3, maxLocals := 2, code := method_2_code, exceptionTable := #[], attributes := #[] }
def k1m1 : Method := { name := "code", desc := "(II)I", sig := { parameters := [.int, .int], returnType := some .int }, accessFlags := 10, code := some k1c1 }
def k1c2 : Code := { maxStack := 2, maxLocals := 4, code := method_3_code, exceptionTable := #[], attributes := #[] }
def k1m2 : Method := { name := "value", desc := "(IIII)I", sig := { parameters := [.int, .int, .int, .int], returnType := some .int }, accessFlags := 10, code := some k1c2 }
def k1c3 : Code := { maxStack := 6, maxLocals := 6, code := method_4_code, exceptionTable := #[], attributes := #[] }
def k1m3 : Method := { name := "table", desc := "(IIIII)[I", sig := { parameters := [.int, .int, .int, .int, .int], returnType := some (.array .int) }, accessFlags := 10, code := some k1c3 }
def k1c4 : Code := { maxStack := 2, maxLocals := 3, code := method_5_code, exceptionTable := #[], attributes := #[] }
def k1m4 : Method := { name := "stops", desc := "([III)Z", sig := { parameters := [(.array .int), .int, .int], returnType := some .boolean }, accessFlags := 10, code := some k1c4 }
def k1c5 : Code := { maxStack := 4, maxLocals := 4, code := method_6_code, exceptionTable := #[], attributes := #[] }
def k1m5 : Method := { name := "firstFrom", desc := "([III)I", sig := { parameters := [(.array .int), .int, .int], returnType := some .int }, accessFlags := 10, code := some k1c5 }
def k1c6 : Code := { maxStack := 5, maxLocals := 11, code := code, exceptionTable := #[], attributes := #[] }
def k1m6 : Method := { name := "law", desc := "(IIIII)Z", sig := { parameters := [.int, .int, .int, .int, .int], returnType := some .boolean }, accessFlags := 9, code := some k1c6 }
/-- com/example/bough3/bough3/model/PrincipalSlotsSlotOfPinLaw -/
def k1 : Class := { plain "com/example/bough3/bough3/model/PrincipalSlotsSlotOfPinLaw" (some 0) with
  accessFlags := 49
  interfaces := #[]
  cf := some (fileOf pool1 10 #[] #[{ accessFlags := 1, nameIndex := 5, descriptorIndex := 6, attributes := #[] }, { accessFlags := 10, nameIndex := 13, descriptorIndex := 14, attributes := #[] }, { accessFlags := 10, nameIndex := 17, descriptorIndex := 18, attributes := #[] }, { accessFlags := 10, nameIndex := 26, descriptorIndex := 27, attributes := #[] }, { accessFlags := 10, nameIndex := 21, descriptorIndex := 22, attributes := #[] }, { accessFlags := 10, nameIndex := 34, descriptorIndex := 35, attributes := #[] }, { accessFlags := 9, nameIndex := 41, descriptorIndex := 42, attributes := #[] }] 49 2 #[] #[])
  fields := #[]
  methods := #[k1m0, k1m1, k1m2, k1m3, k1m4, k1m5, k1m6]
  instanceTypes := #[]
  staticTypes := #[]
  resolved := Array.replicate 45 none
  statics := none }

def pool2 : Array CpInfo := pool [(2, .class_ 4), (1, u "java/lang/Object"), (0, u "<init>"), (0, u "()V"), (0, .class_ 8), (0, u "com/example/bough3/bough3/model/PrincipalSlots"), (10, .integer 2654435769), (0, u "FREE"), (0, u "I"), (2, u "FIRST_SLOTS"), (8, u "slotOf"), (0, u "([II)I")] 2

def k2m0 : Method := { name := "<init>", desc := "()V", sig := { parameters := [], returnType := none }, accessFlags := 2, code := none }
def k2c1 : Code := { maxStack := 3, maxLocals := 5, code := prog_50_method_5_code, exceptionTable := #[], attributes := #[] }
def k2m1 : Method := { name := "slotOf", desc := "([II)I", sig := { parameters := [(.array .int), .int], returnType := some .int }, accessFlags := 8, code := some k2c1 }
/-- com/example/bough3/bough3/model/PrincipalSlots -/
def k2 : Class := { plain "com/example/bough3/bough3/model/PrincipalSlots" (some 0) with
  accessFlags := 32
  interfaces := #[]
  cf := some (fileOf pool2 7 #[] #[{ accessFlags := 2, nameIndex := 5, descriptorIndex := 6, attributes := #[] }, { accessFlags := 8, nameIndex := 33, descriptorIndex := 34, attributes := #[] }] 32 2 #[] #[{ accessFlags := 24, nameIndex := 20, descriptorIndex := 21, attributes := #[] }, { accessFlags := 26, nameIndex := 24, descriptorIndex := 21, attributes := #[] }])
  fields := #[{ name := "FREE", type := .int, accessFlags := 24, slot := 0, constantValue := 0 }, { name := "FIRST_SLOTS", type := .int, accessFlags := 26, slot := 1, constantValue := 0 }]
  methods := #[k2m0, k2m1]
  instanceTypes := #[]
  staticTypes := #[.int, .int]
  resolved := Array.replicate 37 none
  statics := none }

def pool3 : Array CpInfo := pool [(1, u "java/lang/Cloneable"), (0, .class_ 1), (0, u "java/lang/Object"), (0, .class_ 3)] 3

/-- java/lang/Cloneable -/
def k3 : Class := { plain "java/lang/Cloneable" (some 0) with
  accessFlags := 1537
  interfaces := #[]
  cf := some (fileOf pool3 2 #[] #[] 1537 4 #[] #[])
  fields := #[]
  methods := #[]
  instanceTypes := #[]
  staticTypes := #[]
  resolved := Array.replicate 8 none
  statics := none }

def pool4 : Array CpInfo := pool [(1, u "java/io/Serializable"), (0, .class_ 1), (0, u "java/lang/Object"), (0, .class_ 3)] 3

/-- java/io/Serializable -/
def k4 : Class := { plain "java/io/Serializable" (some 0) with
  accessFlags := 1537
  interfaces := #[]
  cf := some (fileOf pool4 2 #[] #[] 1537 4 #[] #[])
  fields := #[]
  methods := #[]
  instanceTypes := #[]
  staticTypes := #[]
  resolved := Array.replicate 8 none
  statics := none }

/-- the primitive byte -/
def k5 : Class := { plain "byte" none with kind := .primitive 'B', accessFlags := 0x411 }
/-- [B -/
def k6 : Class := { plain "[B" (some 0) with kind := .array 5 .byte, interfaces := #[3, 4], accessFlags := 1041 }

/-- the primitive int -/
def k7 : Class := { plain "int" none with kind := .primitive 'I', accessFlags := 0x411 }
/-- [I -/
def k8 : Class := { plain "[I" (some 0) with kind := .array 7 .int, interfaces := #[3, 4], accessFlags := 1041 }

def heap : Heap := #[]
def classes : Array Class := #[k0, k1, k2, k3, k4, k5, k6, k7, k8]
def interned : List (Array UInt16 × Addr) := []
def slotsUsed : Nat := 0
def theMethod : MethodId := ⟨1, 6⟩
def args0 : Array Value := #[.int 5, .int 7, .int 9, .int 11, .int 1]
def aboutOver (below : List Frame) : State where
  vm := { classes := classes, interned := interned.toArray }
  heap := heap
  slotsUsed := slotsUsed
  threads := #[{ frames := .invoking theMethod args0 :: below }]
def below0 : List Frame := [.native { method := ⟨0, 0⟩, args := #[] }]
def about1 : State := aboutOver below0
def p0 : Program := .bare "" "" ""
def e0 : Env := launch0.env 0 0 0
theorem w_frames : about1.frames = Frame.invoking theMethod args0 :: below0 := rfl
set_option maxRecDepth 65536 in
theorem w_args : argsFit about1.vm theMethod args0 = true := by decide +kernel
set_option maxRecDepth 65536 in
theorem w_heap : heapFits about1 = true := by decide +kernel
set_option maxRecDepth 65536 in
theorem w_runnable : about1.curStatus? = some .runnable := by decide +kernel
set_option maxRecDepth 65536 in
theorem w_alone : about1.alone = true := by decide +kernel
set_option maxRecDepth 65536 in
theorem w_named : about1.methodNamed? x = some theMethod := by decide +kernel
set_option maxRecDepth 65536 in
theorem w_hears : about1.hears theMethod below0 = true := by decide +kernel
set_option maxRecDepth 65536 in
theorem w_ripe : about1.ripe theMethod args0 below0 = true := by decide +kernel
theorem w_running : about1.status = .running := rfl
set_option maxRecDepth 65536 in
theorem w_room : about1.hasRoom e0.platform room_1 = true :=
  launch0.hasRoom_least _ room_1 (by decide +kernel) (by decide +kernel) (by decide +kernel) (by decide +kernel) (by decide +kernel) (by decide +kernel)
theorem allAtoms_all (ts : List Jvm.Cond) (a : Array Jvm.Value) (st : Jvm.State) : (allAtoms ts).before a st = ts.all (fun c => c.before a st) := by
  induction ts with
  | nil => rfl
  | cons c t ih =>
    show (Jvm.Cond.and c (allAtoms t)).before a st = _
    rw [Jvm.Cond.before_and, ih, List.all_cons]
def words1 : List Jvm.Cond := Jvm.Cond.code x code maxLocals ret :: tables_1
/-- a 'code' word, met by the world's own term for the bytes: nothing is compared byte by byte -/
theorem code_word {y : MethodName} {bytes : ByteArray} {mx : Nat} {rt : Option FieldType} {a : Array Value} {s : State} {m : MethodId} {meth : Method} {c : Code} (h1 : s.methodNamed? y = some m) (h2 : s.vm.method? m = some meth) (h3 : meth.code = some c) (h4 : c.code = bytes)
    (h5 : (c.maxLocals == mx && c.exceptionTable.isEmpty && decide (c.maxStack ≤ mostOperands) && decide (meth.sig.returnType = rt) && !meth.locks && decide (parseMethodDescriptor y.desc = some meth.sig)) = true) : (Jvm.Cond.code y bytes mx rt).before a s = true := by
  simp only [Bool.and_eq_true, beq_iff_eq, Bool.not_eq_true', decide_eq_true_eq] at h5
  obtain ⟨⟨⟨⟨⟨g1, g2⟩, g3⟩, g4⟩, g5⟩, g6⟩ := h5
  simp [Cond.before, Cond.holds, Cond.value, h1, h2, h3, h4, g1, g2, g3, g4, g5, g6]
def isCode : Jvm.Cond → Bool
  | .code _ _ _ _ => true
  | _ => false
theorem all_split {L : List Jvm.Cond} {P : Jvm.Cond → Bool} (h1 : L.all (fun c => isCode c || P c) = true) (h2 : ∀ c ∈ L.filter isCode, P c = true) : L.all P = true := by
  refine List.all_eq_true.mpr fun c hc => ?_
  have h := List.all_eq_true.mp h1 c hc
  rcases Bool.eq_false_or_eq_true (isCode c) with hi | hi
  · exact h2 c (List.mem_filter.mpr ⟨hc, hi⟩)
  · simpa [hi] using h
set_option maxRecDepth 65536 in
theorem w_c0 : (Jvm.Cond.code x code maxLocals ret).before args0 about1 = true := code_word (m := ⟨1, 6⟩) (meth := k1m6) (c := k1c6) (by decide +kernel) rfl rfl rfl (by decide +kernel)
set_option maxRecDepth 65536 in
theorem w_c1 : (Jvm.Cond.code ({ cls := "com/example/bough3/bough3/model/PrincipalSlotsSlotOfPinLaw", name := "table", desc := "(IIIII)[I" } : Jvm.MethodName) method_4_code (6 : Nat) (Option.some (Jvm.ClassFile.FieldType.array Jvm.ClassFile.FieldType.int))).before args0 about1 = true := code_word (m := ⟨1, 3⟩) (meth := k1m3) (c := k1c3) (by decide +kernel) rfl rfl rfl (by decide +kernel)
set_option maxRecDepth 65536 in
theorem w_c2 : (Jvm.Cond.code ({ cls := "com/example/bough3/bough3/model/PrincipalSlotsSlotOfPinLaw", name := "code", desc := "(II)I" } : Jvm.MethodName) method_2_code (2 : Nat) (Option.some Jvm.ClassFile.FieldType.int)).before args0 about1 = true := code_word (m := ⟨1, 1⟩) (meth := k1m1) (c := k1c1) (by decide +kernel) rfl rfl rfl (by decide +kernel)
set_option maxRecDepth 65536 in
theorem w_c3 : (Jvm.Cond.code ({ cls := "com/example/bough3/bough3/model/PrincipalSlotsSlotOfPinLaw", name := "value", desc := "(IIII)I" } : Jvm.MethodName) method_3_code (4 : Nat) (Option.some Jvm.ClassFile.FieldType.int)).before args0 about1 = true := code_word (m := ⟨1, 2⟩) (meth := k1m2) (c := k1c2) (by decide +kernel) rfl rfl rfl (by decide +kernel)
set_option maxRecDepth 65536 in
theorem w_c4 : (Jvm.Cond.code ({ cls := "com/example/bough3/bough3/model/PrincipalSlots", name := "slotOf", desc := "([II)I" } : Jvm.MethodName) prog_50_method_5_code (5 : Nat) (Option.some Jvm.ClassFile.FieldType.int)).before args0 about1 = true := code_word (m := ⟨2, 1⟩) (meth := k2m1) (c := k2c1) (by decide +kernel) rfl rfl rfl (by decide +kernel)
set_option maxRecDepth 65536 in
theorem w_c5 : (Jvm.Cond.code ({ cls := "com/example/bough3/bough3/model/PrincipalSlotsSlotOfPinLaw", name := "firstFrom", desc := "([III)I" } : Jvm.MethodName) method_6_code (4 : Nat) (Option.some Jvm.ClassFile.FieldType.int)).before args0 about1 = true := code_word (m := ⟨1, 5⟩) (meth := k1m5) (c := k1c5) (by decide +kernel) rfl rfl rfl (by decide +kernel)
set_option maxRecDepth 65536 in
theorem w_c6 : (Jvm.Cond.code ({ cls := "com/example/bough3/bough3/model/PrincipalSlotsSlotOfPinLaw", name := "stops", desc := "([III)Z" } : Jvm.MethodName) method_5_code (3 : Nat) (Option.some Jvm.ClassFile.FieldType.boolean)).before args0 about1 = true := code_word (m := ⟨1, 4⟩) (meth := k1m4) (c := k1c4) (by decide +kernel) rfl rfl rfl (by decide +kernel)
def codes1 : List Jvm.Cond := [Jvm.Cond.code x code maxLocals ret, Jvm.Cond.code ({ cls := "com/example/bough3/bough3/model/PrincipalSlotsSlotOfPinLaw", name := "table", desc := "(IIIII)[I" } : Jvm.MethodName) method_4_code (6 : Nat) (Option.some (Jvm.ClassFile.FieldType.array Jvm.ClassFile.FieldType.int)), Jvm.Cond.code ({ cls := "com/example/bough3/bough3/model/PrincipalSlotsSlotOfPinLaw", name := "code", desc := "(II)I" } : Jvm.MethodName) method_2_code (2 : Nat) (Option.some Jvm.ClassFile.FieldType.int), Jvm.Cond.code ({ cls := "com/example/bough3/bough3/model/PrincipalSlotsSlotOfPinLaw", name := "value", desc := "(IIII)I" } : Jvm.MethodName) method_3_code (4 : Nat) (Option.some Jvm.ClassFile.FieldType.int), Jvm.Cond.code ({ cls := "com/example/bough3/bough3/model/PrincipalSlots", name := "slotOf", desc := "([II)I" } : Jvm.MethodName) prog_50_method_5_code (5 : Nat) (Option.some Jvm.ClassFile.FieldType.int), Jvm.Cond.code ({ cls := "com/example/bough3/bough3/model/PrincipalSlotsSlotOfPinLaw", name := "firstFrom", desc := "([III)I" } : Jvm.MethodName) method_6_code (4 : Nat) (Option.some Jvm.ClassFile.FieldType.int), Jvm.Cond.code ({ cls := "com/example/bough3/bough3/model/PrincipalSlotsSlotOfPinLaw", name := "stops", desc := "([III)Z" } : Jvm.MethodName) method_5_code (3 : Nat) (Option.some Jvm.ClassFile.FieldType.boolean)]
set_option maxRecDepth 65536 in
theorem codes_eq : words1.filter isCode = codes1 := rfl
theorem w_codes : ∀ c ∈ words1.filter isCode, c.before args0 about1 = true := by
  rw [codes_eq]
  intro c hc
  simp only [codes1, List.mem_cons, List.not_mem_nil, or_false] at hc
  rcases hc with rfl | rfl | rfl | rfl | rfl | rfl | rfl
  · exact w_c0
  · exact w_c1
  · exact w_c2
  · exact w_c3
  · exact w_c4
  · exact w_c5
  · exact w_c6
set_option maxRecDepth 65536 in
theorem w_t1 : words1.all (fun c => isCode c || c.before args0 about1) = true := by decide +kernel
theorem w_tables : (allAtoms (Jvm.Cond.code x code maxLocals ret :: tables_1)).before args0 about1 = true := by
  rw [allAtoms_all]
  show words1.all (fun c => c.before args0 about1) = true
  refine all_split ?_ w_codes
  rw [w_t1]
set_option maxRecDepth 65536 in
theorem w_case : (Jvm.Cond.and given_1 narrow_1).before args0 about1 = true := by decide +kernel
theorem w_applies : (headSpec (Jvm.Cond.code x code maxLocals ret :: tables_1) room_1).applies x e0.platform about1 = true :=
  (Spec.applies_iff w_frames).mpr ⟨w_running, w_runnable, w_alone, w_named, w_hears, w_ripe, w_room, w_tables⟩
theorem atStart : AtStart classFile x code maxLocals ret World_1 tables_1 room_1 Calls_1 rest_1 Pre_1 launch0 p0 e0 about1 theMethod args0 below0 :=
  ⟨lists_1, trivial, launch0.admits_env _ _ _, launch0.least_env, fairChoices_fair.cas, fairChoices_fair.clock, w_frames, w_args, w_heap, w_applies, trivial, trivial, w_case⟩
end start1
theorem witness_1 : WitnessClaimed_1 := ⟨start1.p0, start1.e0, start1.about1, start1.theMethod, start1.args0, start1.below0, start1.atStart⟩
end Jvm.Pilot.@@N@@
