import JvmDerived
import JvmDerived.Pilot.@@N@@Statement
import JvmDerived.Pilot.@@N@@Code
set_option linter.unusedVariables false
set_option linter.unusedSimpArgs false
namespace Jvm.RoadKit
theorem own_add32 {a b : Int32} (h1 : -2147483648 ≤ a.toInt + b.toInt) (h2 : a.toInt + b.toInt < 2147483648) : (a + b).toInt = a.toInt + b.toInt := by
  rw [Int32.toInt_add]; exact Int.bmod_eq_of_le (by omega) (by omega)
theorem own_sub32 {a b : Int32} (h1 : -2147483648 ≤ a.toInt - b.toInt) (h2 : a.toInt - b.toInt < 2147483648) : (a - b).toInt = a.toInt - b.toInt := by
  rw [Int32.toInt_sub]; exact Int.bmod_eq_of_le (by omega) (by omega)
theorem own_mul32 {a b : Int32} (h1 : -2147483648 ≤ a.toInt * b.toInt) (h2 : a.toInt * b.toInt < 2147483648) : (a * b).toInt = a.toInt * b.toInt := by
  rw [Int32.toInt_mul]; exact Int.bmod_eq_of_le (by omega) (by omega)
theorem own_add64 {a b : Int64} (h1 : -9223372036854775808 ≤ a.toInt + b.toInt) (h2 : a.toInt + b.toInt < 9223372036854775808) : (a + b).toInt = a.toInt + b.toInt := by
  rw [Int64.toInt_add]; exact Int.bmod_eq_of_le (by omega) (by omega)
theorem own_sub64 {a b : Int64} (h1 : -9223372036854775808 ≤ a.toInt - b.toInt) (h2 : a.toInt - b.toInt < 9223372036854775808) : (a - b).toInt = a.toInt - b.toInt := by
  rw [Int64.toInt_sub]; exact Int.bmod_eq_of_le (by omega) (by omega)
theorem own_mul64 {a b : Int64} (h1 : -9223372036854775808 ≤ a.toInt * b.toInt) (h2 : a.toInt * b.toInt < 9223372036854775808) : (a * b).toInt = a.toInt * b.toInt := by
  rw [Int64.toInt_mul]; exact Int.bmod_eq_of_le (by omega) (by omega)
/-- a mask that isn't negative -/
theorem own_mask32 (x k : Int32) (hk : 0 ≤ k.toInt) : 0 ≤ (x &&& k).toInt ∧ (x &&& k).toInt ≤ k.toInt := by
  have hk' : k.toBitVec.toNat < 2 ^ 31 := by
    have := k.toBitVec.isLt
    have e : k.toInt = k.toBitVec.toInt := rfl
    rw [e, BitVec.toInt_eq_toNat_cond] at hk
    split at hk <;> omega
  have h1 : (x &&& k).toInt = (x.toBitVec &&& k.toBitVec).toInt := rfl
  have h2 : (x.toBitVec &&& k.toBitVec).toNat ≤ k.toBitVec.toNat := by rw [BitVec.toNat_and]; exact Nat.and_le_right
  have e : k.toInt = k.toBitVec.toInt := rfl
  rw [h1, e, BitVec.toInt_eq_toNat_of_lt (by omega), BitVec.toInt_eq_toNat_of_lt (by omega)]; omega
theorem own_mask64 (x k : Int64) (hk : 0 ≤ k.toInt) : 0 ≤ (x &&& k).toInt ∧ (x &&& k).toInt ≤ k.toInt := by
  have hk' : k.toBitVec.toNat < 2 ^ 63 := by
    have := k.toBitVec.isLt
    have e : k.toInt = k.toBitVec.toInt := rfl
    rw [e, BitVec.toInt_eq_toNat_cond] at hk
    split at hk <;> omega
  have h1 : (x &&& k).toInt = (x.toBitVec &&& k.toBitVec).toInt := rfl
  have h2 : (x.toBitVec &&& k.toBitVec).toNat ≤ k.toBitVec.toNat := by rw [BitVec.toNat_and]; exact Nat.and_le_right
  have e : k.toInt = k.toBitVec.toInt := rfl
  rw [h1, e, BitVec.toInt_eq_toNat_of_lt (by omega), BitVec.toInt_eq_toNat_of_lt (by omega)]; omega
end Jvm.RoadKit
namespace Jvm.RoadKit
open Sem ClassFile Op Lib Jvm.Stand Jvm.Free Jvm.LawKit
section Own
variable {p : Program} {l : Launch} {e : Env} {R : Room} {s : State} {m : MethodId} {args : Array Value} {below : List Frame} {meth : Method} {c : Code} {T : State} {locs : List Loc} {cells slots : Nat} {Z : State} {h h' : Heap} {a b : Addr} {ty : FieldType} {n : Nat} {f f' : Nat → Value} {sl : Nat} {v : Value} {ws : List Addr}
/-- an array of n places, place i holds f i -/
def ArF (Z : State) (h : Heap) (a : Addr) (ty : FieldType) (n : Nat) (f : Nat → Value) : Prop := ∃ c : Cell, Arr Z h a c ty ∧ c.slots.size = n ∧ n < 2 ^ 31 ∧ ∀ i, i < n → c.slots[i]? = some (f i)
theorem ArF.lt (F : ArF Z h a ty n f) : a < h.size := by obtain ⟨c, A, -⟩ := F; exact A.lt
theorem ArF.ext (F : ArF Z h a ty n f) (E : Ext h h') : ArF Z h' a ty n f := by obtain ⟨c, A, r⟩ := F; exact ⟨c, A.ext E, r⟩
theorem ArF.other (F : ArF Z h a ty n f) (W : Wr h h' b sl v) (q : a ≠ b) : ArF Z h' a ty n f := by obtain ⟨c, A, r⟩ := F; exact ⟨c, A.other W q, r⟩
theorem ArF.keep (F : ArF Z h a ty n f) (K : Keep h h' ws) (q : a ∉ ws) : ArF Z h' a ty n f := by obtain ⟨c, A, r⟩ := F; exact ⟨c, ⟨K.2.1 a c A.1 q, A.2⟩, r⟩
theorem ArF.congr (F : ArF Z h a ty n f) (q : ∀ i, i < n → f i = f' i) : ArF Z h a ty n f' := by obtain ⟨c, A, r1, r2, r3⟩ := F; exact ⟨c, A, r1, r2, fun i hi => by rw [← q i hi]; exact r3 i hi⟩
theorem ArF.new {k : ClassId} {z : Int32} {dv : Value} (A : Arr Z h a (newA k ty z) ty) (q : ¬ z < 0) (hn : z.toNatClampNeg = n) (hdv : defaultValue ty = dv := by rfl) : ArF Z h a ty n (fun _ => dv) := by
  subst hn hdv
  refine ⟨_, A, sz_new _ _ _, (back32 q).2, fun i hi => ?_⟩
  simp [newA, hi]
theorem own_clamp {j : Int32} {i : Nat} (hj : j.toInt = (i : Int)) : j.toNatClampNeg = i := by
  show j.toInt.toNat = i
  rw [hj]; rfl
theorem own_inb {c : Cell} {j : Int32} {i : Nat} (S : c.slots.size = n) (hj : j.toInt = (i : Int)) (hi : i < n) : ¬ (j < 0 ∨ c.slots.size ≤ j.toNatClampNeg) := by
  rw [own_clamp hj, S]
  rintro (q | q)
  · rw [Int32.lt_iff_toInt_lt, hj] at q
    have : (0 : Int32).toInt = 0 := by decide
    omega
  · omega
theorem ArF.setW {i : Nat} {c : Cell} (A : Arr Z h a c ty) (S : c.slots.size = n) (q3 : n < 2 ^ 31) (H : ∀ k, k < n → c.slots[k]? = some (f k)) (W : Wr h h' a i v) : ArF Z h' a ty n (fun q => if q = i then v else f q) := by
  refine ⟨_, A.same W, by rw [sz_set, S], q3, fun k hk => ?_⟩
  by_cases e : k = i
  · subst e; simp [Cell.setSlot, S, hk]
  · simp only [if_neg e, Cell.setSlot]
    rw [Array.getElem?_setIfInBounds_ne (Ne.symm e)]; exact H k hk
theorem ArF.stI (X : Stand p l e R s m args below meth c T locs cells slots) (hx : p.tables.exec = Jvm.exec) (hZ : Z.Warmed39 s.vm) (eT : T.heap = h) (F : ArF Z h a .int n f) {j x : Int32} {i : Nat} (hj : j.toInt = (i : Int)) (hi : i < n) {g : JFrame} (hg : g.method = m) {rest : List Value} (hs : g.stack = .int x :: .int j :: .ref a :: rest) (hd : decode c.code g.pc = .ok (.iastore, 1)) :
    ∃ T' h', Stand p l e R s m args below meth c T' (locs ++ [⟨a, i⟩]) cells slots ∧ T'.heap = h' ∧ Wr h h' a i (.int x) ∧ ArF Z h' a .int n (fun q => if q = i then .int x else f q) ∧ ∀ target, Steps p.tables e below (T'.setTop { g with pc := g.pc + 1, stack := rest }) target → Steps p.tables e below (T.setTop g) target := by
  obtain ⟨c, A, S, q3, H⟩ := F
  obtain ⟨T', h', X', e', W, st⟩ := Jvm.RoadKit.stI X hx hZ eT A (own_inb S hj hi) hg hs hd
  rw [own_clamp hj] at X' W
  exact ⟨T', h', X', e', W, ArF.setW A S q3 H W, st⟩
theorem ArF.stJ (X : Stand p l e R s m args below meth c T locs cells slots) (hx : p.tables.exec = Jvm.exec) (hZ : Z.Warmed39 s.vm) (eT : T.heap = h) (F : ArF Z h a .long n f) {j : Int32} {x : Int64} {i : Nat} (hj : j.toInt = (i : Int)) (hi : i < n) {g : JFrame} (hg : g.method = m) {rest : List Value} (hs : g.stack = .long x :: .int j :: .ref a :: rest) (hd : decode c.code g.pc = .ok (.lastore, 1)) :
    ∃ T' h', Stand p l e R s m args below meth c T' (locs ++ [⟨a, i⟩]) cells slots ∧ T'.heap = h' ∧ Wr h h' a i (.long x) ∧ ArF Z h' a .long n (fun q => if q = i then .long x else f q) ∧ ∀ target, Steps p.tables e below (T'.setTop { g with pc := g.pc + 1, stack := rest }) target → Steps p.tables e below (T.setTop g) target := by
  obtain ⟨c, A, S, q3, H⟩ := F
  obtain ⟨T', h', X', e', W, st⟩ := Jvm.RoadKit.stJ X hx hZ eT A (own_inb S hj hi) hg hs hd
  rw [own_clamp hj] at X' W
  exact ⟨T', h', X', e', W, ArF.setW A S q3 H W, st⟩
theorem ArF.stB (X : Stand p l e R s m args below meth c T locs cells slots) (hx : p.tables.exec = Jvm.exec) (hZ : Z.Warmed39 s.vm) (eT : T.heap = h) (F : ArF Z h a .byte n f) {j x : Int32} {i : Nat} (hj : j.toInt = (i : Int)) (hi : i < n) {g : JFrame} (hg : g.method = m) {rest : List Value} (hs : g.stack = .int x :: .int j :: .ref a :: rest) (hd : decode c.code g.pc = .ok (.bastore, 1)) :
    ∃ T' h', Stand p l e R s m args below meth c T' (locs ++ [⟨a, i⟩]) cells slots ∧ T'.heap = h' ∧ Wr h h' a i (.int (nar .byte x)) ∧ ArF Z h' a .byte n (fun q => if q = i then .int (nar .byte x) else f q) ∧ ∀ target, Steps p.tables e below (T'.setTop { g with pc := g.pc + 1, stack := rest }) target → Steps p.tables e below (T.setTop g) target := by
  obtain ⟨c, A, S, q3, H⟩ := F
  obtain ⟨T', h', X', e', W, st⟩ := Jvm.RoadKit.stB X hx hZ eT A (own_inb S hj hi) hg hs hd
  rw [own_clamp hj] at X' W
  exact ⟨T', h', X', e', W, ArF.setW A S q3 H W, st⟩
theorem ArF.stC (X : Stand p l e R s m args below meth c T locs cells slots) (hx : p.tables.exec = Jvm.exec) (hZ : Z.Warmed39 s.vm) (eT : T.heap = h) (F : ArF Z h a .char n f) {j x : Int32} {i : Nat} (hj : j.toInt = (i : Int)) (hi : i < n) {g : JFrame} (hg : g.method = m) {rest : List Value} (hs : g.stack = .int x :: .int j :: .ref a :: rest) (hd : decode c.code g.pc = .ok (.castore, 1)) :
    ∃ T' h', Stand p l e R s m args below meth c T' (locs ++ [⟨a, i⟩]) cells slots ∧ T'.heap = h' ∧ Wr h h' a i (.int (nar .char x)) ∧ ArF Z h' a .char n (fun q => if q = i then .int (nar .char x) else f q) ∧ ∀ target, Steps p.tables e below (T'.setTop { g with pc := g.pc + 1, stack := rest }) target → Steps p.tables e below (T.setTop g) target := by
  obtain ⟨c, A, S, q3, H⟩ := F
  obtain ⟨T', h', X', e', W, st⟩ := Jvm.RoadKit.stC X hx hZ eT A (own_inb S hj hi) hg hs hd
  rw [own_clamp hj] at X' W
  exact ⟨T', h', X', e', W, ArF.setW A S q3 H W, st⟩
theorem ArF.ldI (X : Stand p l e R s m args below meth c T locs cells slots) (hx : p.tables.exec = Jvm.exec) (hZ : Z.Warmed39 s.vm) (eT : T.heap = h) (F : ArF Z h a .int n f) {j : Int32} {i : Nat} (hj : j.toInt = (i : Int)) (hi : i < n) {v : Int32} (hv : f i = .int v) {g : JFrame} (hg : g.method = m) {rest : List Value} (hs : g.stack = .int j :: .ref a :: rest) (hd : decode c.code g.pc = .ok (.iaload, 1)) :
    ∀ target, Steps p.tables e below (T.setTop { g with pc := g.pc + 1, stack := .int v :: rest }) target → Steps p.tables e below (T.setTop g) target := by
  obtain ⟨c, A, S, q3, H⟩ := F
  exact X.iaload hx (by rw [eT]; exact A.1) (State.isArrayOf_alike hZ.alike A.2.1) A.2.2 (own_inb S hj hi) (by rw [own_clamp hj, ← hv]; exact H i hi) hg hs hd
theorem ArF.ldJ (X : Stand p l e R s m args below meth c T locs cells slots) (hx : p.tables.exec = Jvm.exec) (hZ : Z.Warmed39 s.vm) (eT : T.heap = h) (F : ArF Z h a .long n f) {j : Int32} {i : Nat} (hj : j.toInt = (i : Int)) (hi : i < n) {v : Int64} (hv : f i = .long v) {g : JFrame} (hg : g.method = m) {rest : List Value} (hs : g.stack = .int j :: .ref a :: rest) (hd : decode c.code g.pc = .ok (.laload, 1)) :
    ∀ target, Steps p.tables e below (T.setTop { g with pc := g.pc + 1, stack := .long v :: rest }) target → Steps p.tables e below (T.setTop g) target := by
  obtain ⟨c, A, S, q3, H⟩ := F
  exact X.laload hx (by rw [eT]; exact A.1) (State.isArrayOf_alike hZ.alike A.2.1) A.2.2 (own_inb S hj hi) (by rw [own_clamp hj, ← hv]; exact H i hi) hg hs hd
theorem ArF.ldB (X : Stand p l e R s m args below meth c T locs cells slots) (hx : p.tables.exec = Jvm.exec) (hZ : Z.Warmed39 s.vm) (eT : T.heap = h) (F : ArF Z h a .byte n f) {j : Int32} {i : Nat} (hj : j.toInt = (i : Int)) (hi : i < n) {v : Int32} (hv : f i = .int v) {g : JFrame} (hg : g.method = m) {rest : List Value} (hs : g.stack = .int j :: .ref a :: rest) (hd : decode c.code g.pc = .ok (.baload, 1)) :
    ∀ target, Steps p.tables e below (T.setTop { g with pc := g.pc + 1, stack := .int v :: rest }) target → Steps p.tables e below (T.setTop g) target := by
  obtain ⟨c, A, S, q3, H⟩ := F
  exact X.baloadBytes hx (by rw [eT]; exact A.1) (State.isArrayOf_alike hZ.alike A.2.1) A.2.2 (own_inb S hj hi) (by rw [own_clamp hj, ← hv]; exact H i hi) hg hs hd
theorem ArF.ldC (X : Stand p l e R s m args below meth c T locs cells slots) (hx : p.tables.exec = Jvm.exec) (hZ : Z.Warmed39 s.vm) (eT : T.heap = h) (F : ArF Z h a .char n f) {j : Int32} {i : Nat} (hj : j.toInt = (i : Int)) (hi : i < n) {v : Int32} (hv : f i = .int v) {g : JFrame} (hg : g.method = m) {rest : List Value} (hs : g.stack = .int j :: .ref a :: rest) (hd : decode c.code g.pc = .ok (.caload, 1)) :
    ∀ target, Steps p.tables e below (T.setTop { g with pc := g.pc + 1, stack := .int v :: rest }) target → Steps p.tables e below (T.setTop g) target := by
  obtain ⟨c, A, S, q3, H⟩ := F
  exact X.caload hx (by rw [eT]; exact A.1) (State.isArrayOf_alike hZ.alike A.2.1) A.2.2 (own_inb S hj hi) (by rw [own_clamp hj, ← hv]; exact H i hi) hg hs hd
theorem ArF.len (X : Stand p l e R s m args below meth c T locs cells slots) (hx : p.tables.exec = Jvm.exec) (hZ : Z.Warmed39 s.vm) (eT : T.heap = h) (F : ArF Z h a ty n f) {g : JFrame} (hg : g.method = m) {rest : List Value} (hs : g.stack = .ref a :: rest) (hd : decode c.code g.pc = .ok (.arraylength, 1)) :
    ∀ target, Steps p.tables e below (T.setTop { g with pc := g.pc + 1, stack := .int (Int32.ofNat n) :: rest }) target → Steps p.tables e below (T.setTop g) target := by
  obtain ⟨c, A, S, q3, H⟩ := F
  have q := X.arraylength hx (by rw [eT]; exact A.1) (State.isArrayOf_alike hZ.alike A.2.1) hg hs hd
  rw [S] at q
  exact q
theorem own_more (X : Stand p l e R s m args below meth c T locs cells slots) {k n : Nat} (h1 : cells ≤ k) (h2 : slots ≤ n) : Stand p l e R s m args below meth c T locs k n :=
  { X with same := X.same.mono h1 h2 }
theorem own_selP {Z s : State} {a0 args : Array Value} {y : MethodName} {k : Nat} (hZ : Z.Warmed39 s.vm) (wi : (Cond.instantiable y.cls k).before a0 Z = true) (wp : (Cond.privateMethod y).before a0 Z = true) (wm : (Cond.instanceMethod y).before a0 Z = true) (hy : y.cls ≠ "java/lang/invoke/MethodHandle" ∧ y.cls ≠ "java/lang/invoke/VarHandle") : (Cond.selects y.cls y y).before args s = true := by
  have wi' : (Cond.instantiable y.cls k).before args s = true := mvT hZ wi
  obtain ⟨c, q, h1, h2, -, h4, -⟩ := Cond.instantiable_spec wi'
  simp only [Bool.or_eq_false_iff] at h4
  exact Jvm.Stand.selects_self_of_private h1 h2 h4.1 (Cond.privateMethod_at (mvP hZ wp (args := args))) (mvT hZ wm) hy
end Own
end Jvm.RoadKit
namespace Jvm.Pilot.@@N@@
open Jvm Jvm.ClassFile Sem Op Lib Jvm.Free Jvm.Stand Jvm.LawKit Jvm.RoadKit Bundle Jvm.Pilot.@@N@@.Jvm.D
theorem d1_0 : decode method_2_code 0 = .ok (.iload_n 0, 1) := by decide +kernel
theorem d1_1 : decode method_2_code 1 = .ok (.ifCond .ne 7, 3) := by decide +kernel
theorem d1_4 : decode method_2_code 4 = .ok (.getstatic 7, 3) := by decide +kernel
theorem d1_7 : decode method_2_code 7 = .ok (.areturn, 1) := by decide +kernel
theorem d1_8 : decode method_2_code 8 = .ok (.iload_n 0, 1) := by decide +kernel
theorem d1_9 : decode method_2_code 9 = .ok (.iconst 1, 1) := by decide +kernel
theorem d1_10 : decode method_2_code 10 = .ok (.if_icmp .ne 7, 3) := by decide +kernel
theorem d1_13 : decode method_2_code 13 = .ok (.getstatic 13, 3) := by decide +kernel
theorem d1_16 : decode method_2_code 16 = .ok (.areturn, 1) := by decide +kernel
theorem d1_17 : decode method_2_code 17 = .ok (.iload_n 0, 1) := by decide +kernel
theorem d1_18 : decode method_2_code 18 = .ok (.iconst 2, 1) := by decide +kernel
theorem d1_19 : decode method_2_code 19 = .ok (.if_icmp .ne 7, 3) := by decide +kernel
theorem d1_22 : decode method_2_code 22 = .ok (.getstatic 16, 3) := by decide +kernel
theorem d1_25 : decode method_2_code 25 = .ok (.areturn, 1) := by decide +kernel
theorem d1_26 : decode method_2_code 26 = .ok (.iload_n 0, 1) := by decide +kernel
theorem d1_27 : decode method_2_code 27 = .ok (.iconst 3, 1) := by decide +kernel
theorem d1_28 : decode method_2_code 28 = .ok (.if_icmp .ne 7, 3) := by decide +kernel
theorem d1_31 : decode method_2_code 31 = .ok (.getstatic 19, 3) := by decide +kernel
theorem d1_34 : decode method_2_code 34 = .ok (.areturn, 1) := by decide +kernel
theorem d1_35 : decode method_2_code 35 = .ok (.iload_n 0, 1) := by decide +kernel
theorem d1_36 : decode method_2_code 36 = .ok (.iconst 4, 1) := by decide +kernel
theorem d1_37 : decode method_2_code 37 = .ok (.if_icmp .ne 7, 3) := by decide +kernel
theorem d1_40 : decode method_2_code 40 = .ok (.getstatic 22, 3) := by decide +kernel
theorem d1_43 : decode method_2_code 43 = .ok (.areturn, 1) := by decide +kernel
theorem d1_44 : decode method_2_code 44 = .ok (.iload_n 0, 1) := by decide +kernel
theorem d1_45 : decode method_2_code 45 = .ok (.iconst 5, 1) := by decide +kernel
theorem d1_46 : decode method_2_code 46 = .ok (.if_icmp .ne 7, 3) := by decide +kernel
theorem d1_49 : decode method_2_code 49 = .ok (.getstatic 25, 3) := by decide +kernel
theorem d1_52 : decode method_2_code 52 = .ok (.areturn, 1) := by decide +kernel
theorem d1_53 : decode method_2_code 53 = .ok (.iload_n 0, 1) := by decide +kernel
theorem d1_54 : decode method_2_code 54 = .ok (.bipush 6, 2) := by decide +kernel
theorem d1_56 : decode method_2_code 56 = .ok (.if_icmp .ne 7, 3) := by decide +kernel
theorem d1_59 : decode method_2_code 59 = .ok (.getstatic 28, 3) := by decide +kernel
theorem d1_62 : decode method_2_code 62 = .ok (.areturn, 1) := by decide +kernel
theorem d1_63 : decode method_2_code 63 = .ok (.iload_n 0, 1) := by decide +kernel
theorem d1_64 : decode method_2_code 64 = .ok (.bipush 7, 2) := by decide +kernel
theorem d1_66 : decode method_2_code 66 = .ok (.if_icmp .ne 7, 3) := by decide +kernel
theorem d1_69 : decode method_2_code 69 = .ok (.getstatic 31, 3) := by decide +kernel
theorem d1_72 : decode method_2_code 72 = .ok (.areturn, 1) := by decide +kernel
theorem d1_73 : decode method_2_code 73 = .ok (.iload_n 0, 1) := by decide +kernel
theorem d1_74 : decode method_2_code 74 = .ok (.bipush 8, 2) := by decide +kernel
theorem d1_76 : decode method_2_code 76 = .ok (.if_icmp .ne 7, 3) := by decide +kernel
theorem d1_79 : decode method_2_code 79 = .ok (.getstatic 34, 3) := by decide +kernel
theorem d1_82 : decode method_2_code 82 = .ok (.areturn, 1) := by decide +kernel
theorem d1_83 : decode method_2_code 83 = .ok (.iload_n 0, 1) := by decide +kernel
theorem d1_84 : decode method_2_code 84 = .ok (.bipush 9, 2) := by decide +kernel
theorem d1_86 : decode method_2_code 86 = .ok (.if_icmp .ne 7, 3) := by decide +kernel
theorem d1_89 : decode method_2_code 89 = .ok (.getstatic 37, 3) := by decide +kernel
theorem d1_92 : decode method_2_code 92 = .ok (.areturn, 1) := by decide +kernel
theorem d1_93 : decode method_2_code 93 = .ok (.iload_n 0, 1) := by decide +kernel
theorem d1_94 : decode method_2_code 94 = .ok (.bipush 10, 2) := by decide +kernel
theorem d1_96 : decode method_2_code 96 = .ok (.if_icmp .ne 7, 3) := by decide +kernel
theorem d1_99 : decode method_2_code 99 = .ok (.getstatic 40, 3) := by decide +kernel
theorem d1_102 : decode method_2_code 102 = .ok (.areturn, 1) := by decide +kernel
theorem d1_103 : decode method_2_code 103 = .ok (.iload_n 0, 1) := by decide +kernel
theorem d1_104 : decode method_2_code 104 = .ok (.bipush 11, 2) := by decide +kernel
theorem d1_106 : decode method_2_code 106 = .ok (.if_icmp .ne 7, 3) := by decide +kernel
theorem d1_109 : decode method_2_code 109 = .ok (.getstatic 43, 3) := by decide +kernel
theorem d1_112 : decode method_2_code 112 = .ok (.areturn, 1) := by decide +kernel
theorem d1_113 : decode method_2_code 113 = .ok (.iload_n 0, 1) := by decide +kernel
theorem d1_114 : decode method_2_code 114 = .ok (.bipush 12, 2) := by decide +kernel
theorem d1_116 : decode method_2_code 116 = .ok (.if_icmp .ne 7, 3) := by decide +kernel
theorem d1_119 : decode method_2_code 119 = .ok (.getstatic 46, 3) := by decide +kernel
theorem d1_122 : decode method_2_code 122 = .ok (.areturn, 1) := by decide +kernel
theorem d1_123 : decode method_2_code 123 = .ok (.iload_n 0, 1) := by decide +kernel
theorem d1_124 : decode method_2_code 124 = .ok (.bipush 13, 2) := by decide +kernel
theorem d1_126 : decode method_2_code 126 = .ok (.if_icmp .ne 7, 3) := by decide +kernel
theorem d1_129 : decode method_2_code 129 = .ok (.getstatic 49, 3) := by decide +kernel
theorem d1_132 : decode method_2_code 132 = .ok (.areturn, 1) := by decide +kernel
theorem d1_133 : decode method_2_code 133 = .ok (.iload_n 0, 1) := by decide +kernel
theorem d1_134 : decode method_2_code 134 = .ok (.bipush 14, 2) := by decide +kernel
theorem d1_136 : decode method_2_code 136 = .ok (.if_icmp .ne 7, 3) := by decide +kernel
theorem d1_139 : decode method_2_code 139 = .ok (.getstatic 52, 3) := by decide +kernel
theorem d1_142 : decode method_2_code 142 = .ok (.areturn, 1) := by decide +kernel
theorem d1_143 : decode method_2_code 143 = .ok (.iload_n 0, 1) := by decide +kernel
theorem d1_144 : decode method_2_code 144 = .ok (.bipush 15, 2) := by decide +kernel
theorem d1_146 : decode method_2_code 146 = .ok (.if_icmp .ne 7, 3) := by decide +kernel
theorem d1_149 : decode method_2_code 149 = .ok (.getstatic 55, 3) := by decide +kernel
theorem d1_152 : decode method_2_code 152 = .ok (.areturn, 1) := by decide +kernel
theorem d1_153 : decode method_2_code 153 = .ok (.iload_n 0, 1) := by decide +kernel
theorem d1_154 : decode method_2_code 154 = .ok (.bipush 16, 2) := by decide +kernel
theorem d1_156 : decode method_2_code 156 = .ok (.if_icmp .ne 7, 3) := by decide +kernel
theorem d1_159 : decode method_2_code 159 = .ok (.getstatic 58, 3) := by decide +kernel
theorem d1_162 : decode method_2_code 162 = .ok (.areturn, 1) := by decide +kernel
theorem d1_163 : decode method_2_code 163 = .ok (.iload_n 0, 1) := by decide +kernel
theorem d1_164 : decode method_2_code 164 = .ok (.bipush 17, 2) := by decide +kernel
theorem d1_166 : decode method_2_code 166 = .ok (.if_icmp .ne 7, 3) := by decide +kernel
theorem d1_169 : decode method_2_code 169 = .ok (.getstatic 61, 3) := by decide +kernel
theorem d1_172 : decode method_2_code 172 = .ok (.areturn, 1) := by decide +kernel
theorem d1_173 : decode method_2_code 173 = .ok (.getstatic 64, 3) := by decide +kernel
theorem d1_176 : decode method_2_code 176 = .ok (.areturn, 1) := by decide +kernel
theorem d2_0 : decode prog_55_method_8_code 0 = .ok (.aload_n 1, 1) := by decide +kernel
theorem d2_1 : decode prog_55_method_8_code 1 = .ok (.aload_n 0, 1) := by decide +kernel
theorem d2_2 : decode prog_55_method_8_code 2 = .ok (.if_acmp .eq 11, 3) := by decide +kernel
theorem d2_5 : decode prog_55_method_8_code 5 = .ok (.aload_n 1, 1) := by decide +kernel
theorem d2_6 : decode prog_55_method_8_code 6 = .ok (.getfield 86, 3) := by decide +kernel
theorem d2_9 : decode prog_55_method_8_code 9 = .ok (.aload_n 0, 1) := by decide +kernel
theorem d2_10 : decode prog_55_method_8_code 10 = .ok (.if_acmp .ne 7, 3) := by decide +kernel
theorem d2_13 : decode prog_55_method_8_code 13 = .ok (.iconst 1, 1) := by decide +kernel
theorem d2_14 : decode prog_55_method_8_code 14 = .ok (.goto 4, 3) := by decide +kernel
theorem d2_17 : decode prog_55_method_8_code 17 = .ok (.iconst 0, 1) := by decide +kernel
theorem d2_18 : decode prog_55_method_8_code 18 = .ok (.ireturn, 1) := by decide +kernel
theorem pn_0 : plainName "com/example/bough3/bough3/model/SecurableTypeNamesPinLaw" = true := by first | (simp [plainName, overriddenIn]; done) | decide +kernel
theorem pn_1 : plainName "com/example/bough3/bough3/model/SecurableType" = true := by first | (simp [plainName, overriddenIn]; done) | decide +kernel
theorem pd_0 : parseMethodDescriptor "(I)Lcom/example/bough3/bough3/model/SecurableType;" = some ⟨[.int], some (.object "com/example/bough3/bough3/model/SecurableType")⟩ := by decide +kernel
theorem pd_1 : parseMethodDescriptor "(Lcom/example/bough3/bough3/model/SecurableType;)Z" = some ⟨[(.object "com/example/bough3/bough3/model/SecurableType")], some .boolean⟩ := by decide +kernel

def own_nm (k : Nat) : Nat := if k = 13 ∨ k = 14 then 12 else if k = 17 ∨ k = 18 then 16 else k
def own_en (Z : State) (h : Heap) (A : Nat → Addr) : Prop := (Sta Z h "com/example/bough3/bough3/model/SecurableType" "METASTORE" "Lcom/example/bough3/bough3/model/SecurableType;" (.ref (A 0)) ∧ Sta Z h "com/example/bough3/bough3/model/SecurableType" "CATALOG" "Lcom/example/bough3/bough3/model/SecurableType;" (.ref (A 1)) ∧ Sta Z h "com/example/bough3/bough3/model/SecurableType" "EXTERNAL_LOCATION" "Lcom/example/bough3/bough3/model/SecurableType;" (.ref (A 2)) ∧ Sta Z h "com/example/bough3/bough3/model/SecurableType" "STORAGE_CREDENTIAL" "Lcom/example/bough3/bough3/model/SecurableType;" (.ref (A 3)) ∧ Sta Z h "com/example/bough3/bough3/model/SecurableType" "SERVICE_CREDENTIAL" "Lcom/example/bough3/bough3/model/SecurableType;" (.ref (A 4)) ∧ Sta Z h "com/example/bough3/bough3/model/SecurableType" "CONNECTION" "Lcom/example/bough3/bough3/model/SecurableType;" (.ref (A 5)) ∧ Sta Z h "com/example/bough3/bough3/model/SecurableType" "EXTERNAL_METADATA" "Lcom/example/bough3/bough3/model/SecurableType;" (.ref (A 6)) ∧ Sta Z h "com/example/bough3/bough3/model/SecurableType" "SHARE" "Lcom/example/bough3/bough3/model/SecurableType;" (.ref (A 7)) ∧ Sta Z h "com/example/bough3/bough3/model/SecurableType" "RECIPIENT" "Lcom/example/bough3/bough3/model/SecurableType;" (.ref (A 8)) ∧ Sta Z h "com/example/bough3/bough3/model/SecurableType" "PROVIDER" "Lcom/example/bough3/bough3/model/SecurableType;" (.ref (A 9)) ∧ Sta Z h "com/example/bough3/bough3/model/SecurableType" "CLEAN_ROOM" "Lcom/example/bough3/bough3/model/SecurableType;" (.ref (A 10)) ∧ Sta Z h "com/example/bough3/bough3/model/SecurableType" "SCHEMA" "Lcom/example/bough3/bough3/model/SecurableType;" (.ref (A 11)) ∧ Sta Z h "com/example/bough3/bough3/model/SecurableType" "TABLE" "Lcom/example/bough3/bough3/model/SecurableType;" (.ref (A 12)) ∧ Sta Z h "com/example/bough3/bough3/model/SecurableType" "VIEW" "Lcom/example/bough3/bough3/model/SecurableType;" (.ref (A 13)) ∧ Sta Z h "com/example/bough3/bough3/model/SecurableType" "MATERIALIZED_VIEW" "Lcom/example/bough3/bough3/model/SecurableType;" (.ref (A 14)) ∧ Sta Z h "com/example/bough3/bough3/model/SecurableType" "VOLUME" "Lcom/example/bough3/bough3/model/SecurableType;" (.ref (A 15)) ∧ Sta Z h "com/example/bough3/bough3/model/SecurableType" "FUNCTION" "Lcom/example/bough3/bough3/model/SecurableType;" (.ref (A 16)) ∧ Sta Z h "com/example/bough3/bough3/model/SecurableType" "MODEL" "Lcom/example/bough3/bough3/model/SecurableType;" (.ref (A 17)) ∧ Sta Z h "com/example/bough3/bough3/model/SecurableType" "PROCEDURE" "Lcom/example/bough3/bough3/model/SecurableType;" (.ref (A 18))) ∧ (∀ k, k < 19 → Exa Z h (A k) "com/example/bough3/bough3/model/SecurableType") ∧ (∀ k, k < 19 → Fld Z h (A k) "java/lang/Enum" "ordinal" "I" (.int (Int32.ofNat k))) ∧ ∀ k, k < 19 → Fld Z h (A k) "com/example/bough3/bough3/model/SecurableType" "namedAs" "Lcom/example/bough3/bough3/model/SecurableType;" (.ref (A (own_nm k)))
def own_ix (x : Int32) (k : Nat) : Prop := x.toInt = (k : Int) ∧ k < 19
theorem own_keq {x J : Int32} {k j : Nat} (hk : own_ix x k) (h : x = J) (hj : J.toInt = (j : Int)) : k = j := by
  have := hk.1; rw [h, hj] at this; omega
theorem own_kne {x J : Int32} {k j : Nat} (hk : own_ix x k) (h : ¬ x = J) (hj : J.toInt = (j : Int)) : k ≠ j := fun e => h (Int32.toInt_inj.mp (by rw [hk.1, hj, e]))
theorem own_iff {x J : Int32} {k j : Nat} (hk : own_ix x k) (hj : J.toInt = (j : Int)) : x = J ↔ k = j := ⟨fun h => own_keq hk h hj, fun h => Int32.toInt_inj.mp (by rw [hk.1, hj, h])⟩
theorem own_e {va vb w : Int32} {a b : Nat} (ha : own_ix va a) (hb : own_ix vb b) (hw : w = (if va = vb then (1 : Int32) else (if va = (12 : Int32) then (if vb = (13 : Int32) then (1 : Int32) else (if vb = (14 : Int32) then (1 : Int32) else (if va = (16 : Int32) then (if vb = (17 : Int32) then (1 : Int32) else (if vb = (18 : Int32) then (1 : Int32) else (0 : Int32))) else (0 : Int32)))) else (if va = (16 : Int32) then (if vb = (17 : Int32) then (1 : Int32) else (if vb = (18 : Int32) then (1 : Int32) else (0 : Int32))) else (0 : Int32))))) : w = if a = b ∨ own_nm b = a then 1 else 0 := by
  have i0 : va = vb ↔ a = b := own_iff ha hb.1
  have i1 : va = (12 : Int32) ↔ a = 12 := own_iff ha (by decide)
  have i2 : va = (16 : Int32) ↔ a = 16 := own_iff ha (by decide)
  have i3 : vb = (13 : Int32) ↔ b = 13 := own_iff hb (by decide)
  have i4 : vb = (14 : Int32) ↔ b = 14 := own_iff hb (by decide)
  have i5 : vb = (17 : Int32) ↔ b = 17 := own_iff hb (by decide)
  have i6 : vb = (18 : Int32) ↔ b = 18 := own_iff hb (by decide)
  rw [hw]
  simp only [i0, i1, i2, i3, i4, i5, i6, own_nm]
  by_cases q0 : a = b
  · simp [q0]
  · by_cases q3 : b = 13
    · subst q3; by_cases q1 : a = 12
      · subst q1; simp
      · simp [q0, q1, Ne.symm q1]
    · by_cases q4 : b = 14
      · subst q4; by_cases q1 : a = 12
        · subst q1; simp
        · simp [q0, q1, Ne.symm q1]
      · by_cases q5 : b = 17
        · subst q5; by_cases q1 : a = 16
          · subst q1; simp
          · simp [q0, q1, Ne.symm q1]
        · by_cases q6 : b = 18
          · subst q6; by_cases q1 : a = 16
            · subst q1; simp
            · simp [q0, q1, Ne.symm q1]
          · simp [q0, q3, q4, q5, q6, Ne.symm q0]
theorem own_mod19 (x v : Int32) (h : v = (x &&& (2147483647 : Int32)) % (19 : Int32)) : ∃ k, own_ix v k := by
  have m := own_mask32 x 2147483647 (by decide)
  have e : (19 : Int32).toInt = 19 := by decide
  have r : v.toInt = (x &&& (2147483647 : Int32)).toInt % 19 := by rw [h, Int32.toInt_mod, e, Int.tmod_eq_emod_of_nonneg m.1]
  exact ⟨v.toInt.toNat, by omega, by omega⟩
theorem own_inj {Z : State} {h : Heap} {A : Nat → Addr} (H : own_en Z h A) {j k : Nat} (hj : j < 19) (hk : k < 19) (n : j ≠ k) : A j ≠ A k := by
  refine Fld.ne (H.2.2.1 j hj) (H.2.2.1 k hk) fun q => n ?_
  have q' : Int32.ofNat j = Int32.ofNat k := Value.int.inj q
  have := congrArg Int32.toInt q'
  rw [Int32.toInt_ofNat_of_lt (by omega), Int32.toInt_ofNat_of_lt (by omega)] at this
  omega
theorem own_nm_lt {k : Nat} (h : k < 19) : own_nm k < 19 := by unfold own_nm; split; omega; split <;> omega
theorem ef_rm1 (m : MethodId) (x0 : Int32) : entryFrame m #[(.int x0)] 1 = mkF m 0 #[.val (.int x0)] [] := by first | (simp [entryFrame, mkF, argsToLocals, Value.category]; done) | rfl
def Q_rm1 (Z : State) (A : Nat → Addr) (i1 : Int32) (k : Nat) (h0 : Heap) (n0 : Nat) (v : Option Value) (h : Heap) (L : List Loc) : Prop := v = some (.ref (A k)) ∧ Fr n0 L ∧ h = h0
set_option maxRecDepth 65536 in
set_option maxHeartbeats 40000000 in
theorem rm1 (l : Launch) (Z : State) (a0 : Array Value) (hw : ∀ d ∈ tables_1, d.before a0 Z = true) (ws : List Jvm.Cond) (A : Nat → Addr) (i1 : Int32) (k : Nat) (h0 : Heap) (n0 : Nat) (Z0 : n0 ≤ h0.size) (H : own_en Z h0 A) (hk : own_ix i1 k) :
    MetFree l (⟨"com/example/bough3/bough3/model/SecurableTypeNamesPinLaw", "type", "(I)Lcom/example/bough3/bough3/model/SecurableType;"⟩ : MethodName) (head1 (Jvm.Cond.code (⟨"com/example/bough3/bough3/model/SecurableTypeNamesPinLaw", "type", "(I)Lcom/example/bough3/bough3/model/SecurableType;"⟩ : MethodName) method_2_code 1 (some (.object "com/example/bough3/bough3/model/SecurableType")) :: ws) ({ frames := 0, cells := 0, slots := 0, locals := 0 } : Room)) (fun a U => a = #[(.int i1)] ∧ Z.Warmed39 U.vm ∧ U.heap = h0) (fun _ _ _ _ _ => True) (fun _ U o U' => ∃ v L, o = .returned v ∧ Q_rm1 Z A i1 k h0 n0 v U'.heap L ∧ FrameEnd U o U' L ({ frames := 0, cells := 0, slots := 0, locals := 0 } : Room).cells ({ frames := 0, cells := 0, slots := 0, locals := 0 } : Room).slots) := by
  refine MetFree.of_bodySF (plainFor_of_name pn_0) hisR ?_
  intro p e s m args below meth c s₁ Bd hml0 hP hK
  obtain ⟨rfl, hZ, hh⟩ := hP
  have hx := Bd.exec
  have hby := Bd.bytes
  have hml : c.maxLocals = 1 := hml0
  have hown : s.vm.findClass "com/example/bough3/bough3/model/SecurableTypeNamesPinLaw" = some m.cls := findClass_of_methodNamed Bd.named
  have hnm := (name_of_methodNamed Bd.named Bd.method).1
  have X0 : Stand p l e ({ frames := 0, cells := 0, slots := 0, locals := 0 } : Room) s m #[(.int i1)] below meth c s₁ [] 0 0 := Stand.of_body Bd
  have e0 : s₁.heap = h0 := by rw [← hh, Bd.state]; rfl
  have N0 := Fr.nil n0
  have pre0 : ∀ t, Steps p.tables e below (s₁.setTop (mkF m 0 #[.val (.int i1)] [])) t → Steps p.tables e below (s₁.setTop (entryFrame m #[(.int i1)] 1)) t := fun t k => castTop (ef_rm1 m i1) k
  obtain ⟨⟨S_0, S_1, S_2, S_3, S_4, S_5, S_6, S_7, S_8, S_9, S_10, S_11, S_12, S_13, S_14, S_15, S_16, S_17, S_18⟩, -⟩ := H
  have S1 : ∀ t, Steps p.tables e below (s₁.setTop (mkF m 1 #[.val (.int i1)] [(.int i1)])) t → Steps p.tables e below (s₁.setTop (mkF m 0 #[.val (.int i1)] [])) t := by
    intro t kt
    show Steps p.tables e below (s₁.setTop (mkF m 0 #[.val (.int i1)] [])) _
    refine XS.iloadN X0.here hx rfl (hb hby d1_0) rfl ?_
    exact kt
  by_cases hc2 : i1 = (0 : Int32)
  · have S3 : ∀ t, Steps p.tables e below (s₁.setTop (mkF m 4 #[.val (.int i1)] [])) t → Steps p.tables e below (s₁.setTop (mkF m 1 #[.val (.int i1)] [(.int i1)])) t := by
      intro t kt
      show Steps p.tables e below (s₁.setTop (mkF m 1 #[.val (.int i1)] [(.int i1)])) _
      refine XS.ifNo X0.here hx rfl (hb hby d1_1) rfl ((if0 _ _).trans (teq hc2).2) ?_
      exact kt
    obtain ⟨T4, X4, e4, st4⟩ := getS2 X0 hx hZ hown (host := "") (Or.inl (hw _ (List.mem_of_getElem? (i := 5) rfl))) Via.refl e0 S_0 (g := (mkF m 4 #[.val (.int i1)] [])) rfl (hb hby d1_4)
    have C5 : ∀ t, Steps p.tables e below (T4.setTop (mkF m 7 #[.val (.int i1)] [(.ref (A 0))])) t → Steps p.tables e below (s₁.setTop (mkF m 0 #[.val (.int i1)] [])) t := (fun t k => (S1 t (S3 t (st4 t k))))
    obtain ⟨fs, hr, hrun, hended, hW, hsame⟩ := X4.leave (v := some (.ref (A 0))) (fun h => by rw [Bd.returns] at h; cases h)
    refine ⟨_, _, pre0 _ (C5 _ ?_), hrun, hended, _, _, rfl, ?_, ⟨_, rfl⟩, hW, hsame.mono (by decide) (by decide)⟩
    · exact retOut X4 hx Bd.returns rfl (Or.inr (Or.inr (Or.inr (Or.inr ⟨rfl, rfl, rfl⟩)))) (hb hby d1_7) hr
    · show Q_rm1 Z A i1 k h0 n0 _ T4.heap _
      rw [e4]
      exact ⟨by rw [own_keq (j := 0) hk hc2 (by decide)], N0, rfl⟩
  · have S6 : ∀ t, Steps p.tables e below (s₁.setTop (mkF m 10 #[.val (.int i1)] [(.int (1 : Int32)), (.int i1)])) t → Steps p.tables e below (s₁.setTop (mkF m 1 #[.val (.int i1)] [(.int i1)])) t := by
      intro t kt
      show Steps p.tables e below (s₁.setTop (mkF m 1 #[.val (.int i1)] [(.int i1)])) _
      refine XS.ifYes X0.here hx rfl (pc0 := 1) (pc' := 8) rfl (hb hby d1_1) rfl ((if0 _ _).trans (feq hc2).2) (by decide) (by decide) ?_
      show Steps p.tables e below (s₁.setTop (mkF m 8 #[.val (.int i1)] [])) _
      refine XS.iloadN X0.here hx rfl (hb hby d1_8) rfl ?_
      show Steps p.tables e below (s₁.setTop (mkF m 9 #[.val (.int i1)] [(.int i1)])) _
      refine XS.iconst X0.here hx rfl (hb hby d1_9) ?_
      exact kt
    by_cases hc7 : i1 = (1 : Int32)
    · have S8 : ∀ t, Steps p.tables e below (s₁.setTop (mkF m 13 #[.val (.int i1)] [])) t → Steps p.tables e below (s₁.setTop (mkF m 10 #[.val (.int i1)] [(.int (1 : Int32)), (.int i1)])) t := by
        intro t kt
        show Steps p.tables e below (s₁.setTop (mkF m 10 #[.val (.int i1)] [(.int (1 : Int32)), (.int i1)])) _
        refine XS.icmpNo X0.here hx rfl (hb hby d1_10) rfl (teq hc7).2 ?_
        exact kt
      obtain ⟨T9, X9, e9, st9⟩ := getS2 X0 hx hZ hown (host := "") (Or.inl (hw _ (List.mem_of_getElem? (i := 19) rfl))) Via.refl e0 S_1 (g := (mkF m 13 #[.val (.int i1)] [])) rfl (hb hby d1_13)
      have C10 : ∀ t, Steps p.tables e below (T9.setTop (mkF m 16 #[.val (.int i1)] [(.ref (A 1))])) t → Steps p.tables e below (s₁.setTop (mkF m 0 #[.val (.int i1)] [])) t := (fun t k => (S1 t (S6 t (S8 t (st9 t k)))))
      obtain ⟨fs, hr, hrun, hended, hW, hsame⟩ := X9.leave (v := some (.ref (A 1))) (fun h => by rw [Bd.returns] at h; cases h)
      refine ⟨_, _, pre0 _ (C10 _ ?_), hrun, hended, _, _, rfl, ?_, ⟨_, rfl⟩, hW, hsame.mono (by decide) (by decide)⟩
      · exact retOut X9 hx Bd.returns rfl (Or.inr (Or.inr (Or.inr (Or.inr ⟨rfl, rfl, rfl⟩)))) (hb hby d1_16) hr
      · show Q_rm1 Z A i1 k h0 n0 _ T9.heap _
        rw [e9]
        exact ⟨by rw [own_keq (j := 1) hk hc7 (by decide)], N0, rfl⟩
    · have S11 : ∀ t, Steps p.tables e below (s₁.setTop (mkF m 19 #[.val (.int i1)] [(.int (2 : Int32)), (.int i1)])) t → Steps p.tables e below (s₁.setTop (mkF m 10 #[.val (.int i1)] [(.int (1 : Int32)), (.int i1)])) t := by
        intro t kt
        show Steps p.tables e below (s₁.setTop (mkF m 10 #[.val (.int i1)] [(.int (1 : Int32)), (.int i1)])) _
        refine XS.icmpYes X0.here hx rfl (pc0 := 10) (pc' := 17) rfl (hb hby d1_10) rfl (feq hc7).2 (by decide) (by decide) ?_
        show Steps p.tables e below (s₁.setTop (mkF m 17 #[.val (.int i1)] [])) _
        refine XS.iloadN X0.here hx rfl (hb hby d1_17) rfl ?_
        show Steps p.tables e below (s₁.setTop (mkF m 18 #[.val (.int i1)] [(.int i1)])) _
        refine XS.iconst X0.here hx rfl (hb hby d1_18) ?_
        exact kt
      by_cases hc12 : i1 = (2 : Int32)
      · have S13 : ∀ t, Steps p.tables e below (s₁.setTop (mkF m 22 #[.val (.int i1)] [])) t → Steps p.tables e below (s₁.setTop (mkF m 19 #[.val (.int i1)] [(.int (2 : Int32)), (.int i1)])) t := by
          intro t kt
          show Steps p.tables e below (s₁.setTop (mkF m 19 #[.val (.int i1)] [(.int (2 : Int32)), (.int i1)])) _
          refine XS.icmpNo X0.here hx rfl (hb hby d1_19) rfl (teq hc12).2 ?_
          exact kt
        obtain ⟨T14, X14, e14, st14⟩ := getS2 X0 hx hZ hown (host := "") (Or.inl (hw _ (List.mem_of_getElem? (i := 26) rfl))) Via.refl e0 S_2 (g := (mkF m 22 #[.val (.int i1)] [])) rfl (hb hby d1_22)
        have C15 : ∀ t, Steps p.tables e below (T14.setTop (mkF m 25 #[.val (.int i1)] [(.ref (A 2))])) t → Steps p.tables e below (s₁.setTop (mkF m 0 #[.val (.int i1)] [])) t := (fun t k => (S1 t (S6 t (S11 t (S13 t (st14 t k))))))
        obtain ⟨fs, hr, hrun, hended, hW, hsame⟩ := X14.leave (v := some (.ref (A 2))) (fun h => by rw [Bd.returns] at h; cases h)
        refine ⟨_, _, pre0 _ (C15 _ ?_), hrun, hended, _, _, rfl, ?_, ⟨_, rfl⟩, hW, hsame.mono (by decide) (by decide)⟩
        · exact retOut X14 hx Bd.returns rfl (Or.inr (Or.inr (Or.inr (Or.inr ⟨rfl, rfl, rfl⟩)))) (hb hby d1_25) hr
        · show Q_rm1 Z A i1 k h0 n0 _ T14.heap _
          rw [e14]
          exact ⟨by rw [own_keq (j := 2) hk hc12 (by decide)], N0, rfl⟩
      · have S16 : ∀ t, Steps p.tables e below (s₁.setTop (mkF m 28 #[.val (.int i1)] [(.int (3 : Int32)), (.int i1)])) t → Steps p.tables e below (s₁.setTop (mkF m 19 #[.val (.int i1)] [(.int (2 : Int32)), (.int i1)])) t := by
          intro t kt
          show Steps p.tables e below (s₁.setTop (mkF m 19 #[.val (.int i1)] [(.int (2 : Int32)), (.int i1)])) _
          refine XS.icmpYes X0.here hx rfl (pc0 := 19) (pc' := 26) rfl (hb hby d1_19) rfl (feq hc12).2 (by decide) (by decide) ?_
          show Steps p.tables e below (s₁.setTop (mkF m 26 #[.val (.int i1)] [])) _
          refine XS.iloadN X0.here hx rfl (hb hby d1_26) rfl ?_
          show Steps p.tables e below (s₁.setTop (mkF m 27 #[.val (.int i1)] [(.int i1)])) _
          refine XS.iconst X0.here hx rfl (hb hby d1_27) ?_
          exact kt
        by_cases hc17 : i1 = (3 : Int32)
        · have S18 : ∀ t, Steps p.tables e below (s₁.setTop (mkF m 31 #[.val (.int i1)] [])) t → Steps p.tables e below (s₁.setTop (mkF m 28 #[.val (.int i1)] [(.int (3 : Int32)), (.int i1)])) t := by
            intro t kt
            show Steps p.tables e below (s₁.setTop (mkF m 28 #[.val (.int i1)] [(.int (3 : Int32)), (.int i1)])) _
            refine XS.icmpNo X0.here hx rfl (hb hby d1_28) rfl (teq hc17).2 ?_
            exact kt
          obtain ⟨T19, X19, e19, st19⟩ := getS2 X0 hx hZ hown (host := "") (Or.inl (hw _ (List.mem_of_getElem? (i := 8) rfl))) Via.refl e0 S_3 (g := (mkF m 31 #[.val (.int i1)] [])) rfl (hb hby d1_31)
          have C20 : ∀ t, Steps p.tables e below (T19.setTop (mkF m 34 #[.val (.int i1)] [(.ref (A 3))])) t → Steps p.tables e below (s₁.setTop (mkF m 0 #[.val (.int i1)] [])) t := (fun t k => (S1 t (S6 t (S11 t (S16 t (S18 t (st19 t k)))))))
          obtain ⟨fs, hr, hrun, hended, hW, hsame⟩ := X19.leave (v := some (.ref (A 3))) (fun h => by rw [Bd.returns] at h; cases h)
          refine ⟨_, _, pre0 _ (C20 _ ?_), hrun, hended, _, _, rfl, ?_, ⟨_, rfl⟩, hW, hsame.mono (by decide) (by decide)⟩
          · exact retOut X19 hx Bd.returns rfl (Or.inr (Or.inr (Or.inr (Or.inr ⟨rfl, rfl, rfl⟩)))) (hb hby d1_34) hr
          · show Q_rm1 Z A i1 k h0 n0 _ T19.heap _
            rw [e19]
            exact ⟨by rw [own_keq (j := 3) hk hc17 (by decide)], N0, rfl⟩
        · have S21 : ∀ t, Steps p.tables e below (s₁.setTop (mkF m 37 #[.val (.int i1)] [(.int (4 : Int32)), (.int i1)])) t → Steps p.tables e below (s₁.setTop (mkF m 28 #[.val (.int i1)] [(.int (3 : Int32)), (.int i1)])) t := by
            intro t kt
            show Steps p.tables e below (s₁.setTop (mkF m 28 #[.val (.int i1)] [(.int (3 : Int32)), (.int i1)])) _
            refine XS.icmpYes X0.here hx rfl (pc0 := 28) (pc' := 35) rfl (hb hby d1_28) rfl (feq hc17).2 (by decide) (by decide) ?_
            show Steps p.tables e below (s₁.setTop (mkF m 35 #[.val (.int i1)] [])) _
            refine XS.iloadN X0.here hx rfl (hb hby d1_35) rfl ?_
            show Steps p.tables e below (s₁.setTop (mkF m 36 #[.val (.int i1)] [(.int i1)])) _
            refine XS.iconst X0.here hx rfl (hb hby d1_36) ?_
            exact kt
          by_cases hc22 : i1 = (4 : Int32)
          · have S23 : ∀ t, Steps p.tables e below (s₁.setTop (mkF m 40 #[.val (.int i1)] [])) t → Steps p.tables e below (s₁.setTop (mkF m 37 #[.val (.int i1)] [(.int (4 : Int32)), (.int i1)])) t := by
              intro t kt
              show Steps p.tables e below (s₁.setTop (mkF m 37 #[.val (.int i1)] [(.int (4 : Int32)), (.int i1)])) _
              refine XS.icmpNo X0.here hx rfl (hb hby d1_37) rfl (teq hc22).2 ?_
              exact kt
            obtain ⟨T24, X24, e24, st24⟩ := getS2 X0 hx hZ hown (host := "") (Or.inl (hw _ (List.mem_of_getElem? (i := 42) rfl))) Via.refl e0 S_4 (g := (mkF m 40 #[.val (.int i1)] [])) rfl (hb hby d1_40)
            have C25 : ∀ t, Steps p.tables e below (T24.setTop (mkF m 43 #[.val (.int i1)] [(.ref (A 4))])) t → Steps p.tables e below (s₁.setTop (mkF m 0 #[.val (.int i1)] [])) t := (fun t k => (S1 t (S6 t (S11 t (S16 t (S21 t (S23 t (st24 t k))))))))
            obtain ⟨fs, hr, hrun, hended, hW, hsame⟩ := X24.leave (v := some (.ref (A 4))) (fun h => by rw [Bd.returns] at h; cases h)
            refine ⟨_, _, pre0 _ (C25 _ ?_), hrun, hended, _, _, rfl, ?_, ⟨_, rfl⟩, hW, hsame.mono (by decide) (by decide)⟩
            · exact retOut X24 hx Bd.returns rfl (Or.inr (Or.inr (Or.inr (Or.inr ⟨rfl, rfl, rfl⟩)))) (hb hby d1_43) hr
            · show Q_rm1 Z A i1 k h0 n0 _ T24.heap _
              rw [e24]
              exact ⟨by rw [own_keq (j := 4) hk hc22 (by decide)], N0, rfl⟩
          · have S26 : ∀ t, Steps p.tables e below (s₁.setTop (mkF m 46 #[.val (.int i1)] [(.int (5 : Int32)), (.int i1)])) t → Steps p.tables e below (s₁.setTop (mkF m 37 #[.val (.int i1)] [(.int (4 : Int32)), (.int i1)])) t := by
              intro t kt
              show Steps p.tables e below (s₁.setTop (mkF m 37 #[.val (.int i1)] [(.int (4 : Int32)), (.int i1)])) _
              refine XS.icmpYes X0.here hx rfl (pc0 := 37) (pc' := 44) rfl (hb hby d1_37) rfl (feq hc22).2 (by decide) (by decide) ?_
              show Steps p.tables e below (s₁.setTop (mkF m 44 #[.val (.int i1)] [])) _
              refine XS.iloadN X0.here hx rfl (hb hby d1_44) rfl ?_
              show Steps p.tables e below (s₁.setTop (mkF m 45 #[.val (.int i1)] [(.int i1)])) _
              refine XS.iconst X0.here hx rfl (hb hby d1_45) ?_
              exact kt
            by_cases hc27 : i1 = (5 : Int32)
            · have S28 : ∀ t, Steps p.tables e below (s₁.setTop (mkF m 49 #[.val (.int i1)] [])) t → Steps p.tables e below (s₁.setTop (mkF m 46 #[.val (.int i1)] [(.int (5 : Int32)), (.int i1)])) t := by
                intro t kt
                show Steps p.tables e below (s₁.setTop (mkF m 46 #[.val (.int i1)] [(.int (5 : Int32)), (.int i1)])) _
                refine XS.icmpNo X0.here hx rfl (hb hby d1_46) rfl (teq hc27).2 ?_
                exact kt
              obtain ⟨T29, X29, e29, st29⟩ := getS2 X0 hx hZ hown (host := "") (Or.inl (hw _ (List.mem_of_getElem? (i := 38) rfl))) Via.refl e0 S_5 (g := (mkF m 49 #[.val (.int i1)] [])) rfl (hb hby d1_49)
              have C30 : ∀ t, Steps p.tables e below (T29.setTop (mkF m 52 #[.val (.int i1)] [(.ref (A 5))])) t → Steps p.tables e below (s₁.setTop (mkF m 0 #[.val (.int i1)] [])) t := (fun t k => (S1 t (S6 t (S11 t (S16 t (S21 t (S26 t (S28 t (st29 t k)))))))))
              obtain ⟨fs, hr, hrun, hended, hW, hsame⟩ := X29.leave (v := some (.ref (A 5))) (fun h => by rw [Bd.returns] at h; cases h)
              refine ⟨_, _, pre0 _ (C30 _ ?_), hrun, hended, _, _, rfl, ?_, ⟨_, rfl⟩, hW, hsame.mono (by decide) (by decide)⟩
              · exact retOut X29 hx Bd.returns rfl (Or.inr (Or.inr (Or.inr (Or.inr ⟨rfl, rfl, rfl⟩)))) (hb hby d1_52) hr
              · show Q_rm1 Z A i1 k h0 n0 _ T29.heap _
                rw [e29]
                exact ⟨by rw [own_keq (j := 5) hk hc27 (by decide)], N0, rfl⟩
            · have S31 : ∀ t, Steps p.tables e below (s₁.setTop (mkF m 56 #[.val (.int i1)] [(.int (6 : Int32)), (.int i1)])) t → Steps p.tables e below (s₁.setTop (mkF m 46 #[.val (.int i1)] [(.int (5 : Int32)), (.int i1)])) t := by
                intro t kt
                show Steps p.tables e below (s₁.setTop (mkF m 46 #[.val (.int i1)] [(.int (5 : Int32)), (.int i1)])) _
                refine XS.icmpYes X0.here hx rfl (pc0 := 46) (pc' := 53) rfl (hb hby d1_46) rfl (feq hc27).2 (by decide) (by decide) ?_
                show Steps p.tables e below (s₁.setTop (mkF m 53 #[.val (.int i1)] [])) _
                refine XS.iloadN X0.here hx rfl (hb hby d1_53) rfl ?_
                show Steps p.tables e below (s₁.setTop (mkF m 54 #[.val (.int i1)] [(.int i1)])) _
                refine XS.bipush X0.here hx rfl (hb hby d1_54) ?_
                exact kt
              by_cases hc32 : i1 = (6 : Int32)
              · have S33 : ∀ t, Steps p.tables e below (s₁.setTop (mkF m 59 #[.val (.int i1)] [])) t → Steps p.tables e below (s₁.setTop (mkF m 56 #[.val (.int i1)] [(.int (6 : Int32)), (.int i1)])) t := by
                  intro t kt
                  show Steps p.tables e below (s₁.setTop (mkF m 56 #[.val (.int i1)] [(.int (6 : Int32)), (.int i1)])) _
                  refine XS.icmpNo X0.here hx rfl (hb hby d1_56) rfl (teq hc32).2 ?_
                  exact kt
                obtain ⟨T34, X34, e34, st34⟩ := getS2 X0 hx hZ hown (host := "") (Or.inl (hw _ (List.mem_of_getElem? (i := 31) rfl))) Via.refl e0 S_6 (g := (mkF m 59 #[.val (.int i1)] [])) rfl (hb hby d1_59)
                have C35 : ∀ t, Steps p.tables e below (T34.setTop (mkF m 62 #[.val (.int i1)] [(.ref (A 6))])) t → Steps p.tables e below (s₁.setTop (mkF m 0 #[.val (.int i1)] [])) t := (fun t k => (S1 t (S6 t (S11 t (S16 t (S21 t (S26 t (S31 t (S33 t (st34 t k))))))))))
                obtain ⟨fs, hr, hrun, hended, hW, hsame⟩ := X34.leave (v := some (.ref (A 6))) (fun h => by rw [Bd.returns] at h; cases h)
                refine ⟨_, _, pre0 _ (C35 _ ?_), hrun, hended, _, _, rfl, ?_, ⟨_, rfl⟩, hW, hsame.mono (by decide) (by decide)⟩
                · exact retOut X34 hx Bd.returns rfl (Or.inr (Or.inr (Or.inr (Or.inr ⟨rfl, rfl, rfl⟩)))) (hb hby d1_62) hr
                · show Q_rm1 Z A i1 k h0 n0 _ T34.heap _
                  rw [e34]
                  exact ⟨by rw [own_keq (j := 6) hk hc32 (by decide)], N0, rfl⟩
              · have S36 : ∀ t, Steps p.tables e below (s₁.setTop (mkF m 66 #[.val (.int i1)] [(.int (7 : Int32)), (.int i1)])) t → Steps p.tables e below (s₁.setTop (mkF m 56 #[.val (.int i1)] [(.int (6 : Int32)), (.int i1)])) t := by
                  intro t kt
                  show Steps p.tables e below (s₁.setTop (mkF m 56 #[.val (.int i1)] [(.int (6 : Int32)), (.int i1)])) _
                  refine XS.icmpYes X0.here hx rfl (pc0 := 56) (pc' := 63) rfl (hb hby d1_56) rfl (feq hc32).2 (by decide) (by decide) ?_
                  show Steps p.tables e below (s₁.setTop (mkF m 63 #[.val (.int i1)] [])) _
                  refine XS.iloadN X0.here hx rfl (hb hby d1_63) rfl ?_
                  show Steps p.tables e below (s₁.setTop (mkF m 64 #[.val (.int i1)] [(.int i1)])) _
                  refine XS.bipush X0.here hx rfl (hb hby d1_64) ?_
                  exact kt
                by_cases hc37 : i1 = (7 : Int32)
                · have S38 : ∀ t, Steps p.tables e below (s₁.setTop (mkF m 69 #[.val (.int i1)] [])) t → Steps p.tables e below (s₁.setTop (mkF m 66 #[.val (.int i1)] [(.int (7 : Int32)), (.int i1)])) t := by
                    intro t kt
                    show Steps p.tables e below (s₁.setTop (mkF m 66 #[.val (.int i1)] [(.int (7 : Int32)), (.int i1)])) _
                    refine XS.icmpNo X0.here hx rfl (hb hby d1_66) rfl (teq hc37).2 ?_
                    exact kt
                  obtain ⟨T39, X39, e39, st39⟩ := getS2 X0 hx hZ hown (host := "") (Or.inl (hw _ (List.mem_of_getElem? (i := 40) rfl))) Via.refl e0 S_7 (g := (mkF m 69 #[.val (.int i1)] [])) rfl (hb hby d1_69)
                  have C40 : ∀ t, Steps p.tables e below (T39.setTop (mkF m 72 #[.val (.int i1)] [(.ref (A 7))])) t → Steps p.tables e below (s₁.setTop (mkF m 0 #[.val (.int i1)] [])) t := (fun t k => (S1 t (S6 t (S11 t (S16 t (S21 t (S26 t (S31 t (S36 t (S38 t (st39 t k)))))))))))
                  obtain ⟨fs, hr, hrun, hended, hW, hsame⟩ := X39.leave (v := some (.ref (A 7))) (fun h => by rw [Bd.returns] at h; cases h)
                  refine ⟨_, _, pre0 _ (C40 _ ?_), hrun, hended, _, _, rfl, ?_, ⟨_, rfl⟩, hW, hsame.mono (by decide) (by decide)⟩
                  · exact retOut X39 hx Bd.returns rfl (Or.inr (Or.inr (Or.inr (Or.inr ⟨rfl, rfl, rfl⟩)))) (hb hby d1_72) hr
                  · show Q_rm1 Z A i1 k h0 n0 _ T39.heap _
                    rw [e39]
                    exact ⟨by rw [own_keq (j := 7) hk hc37 (by decide)], N0, rfl⟩
                · have S41 : ∀ t, Steps p.tables e below (s₁.setTop (mkF m 76 #[.val (.int i1)] [(.int (8 : Int32)), (.int i1)])) t → Steps p.tables e below (s₁.setTop (mkF m 66 #[.val (.int i1)] [(.int (7 : Int32)), (.int i1)])) t := by
                    intro t kt
                    show Steps p.tables e below (s₁.setTop (mkF m 66 #[.val (.int i1)] [(.int (7 : Int32)), (.int i1)])) _
                    refine XS.icmpYes X0.here hx rfl (pc0 := 66) (pc' := 73) rfl (hb hby d1_66) rfl (feq hc37).2 (by decide) (by decide) ?_
                    show Steps p.tables e below (s₁.setTop (mkF m 73 #[.val (.int i1)] [])) _
                    refine XS.iloadN X0.here hx rfl (hb hby d1_73) rfl ?_
                    show Steps p.tables e below (s₁.setTop (mkF m 74 #[.val (.int i1)] [(.int i1)])) _
                    refine XS.bipush X0.here hx rfl (hb hby d1_74) ?_
                    exact kt
                  by_cases hc42 : i1 = (8 : Int32)
                  · have S43 : ∀ t, Steps p.tables e below (s₁.setTop (mkF m 79 #[.val (.int i1)] [])) t → Steps p.tables e below (s₁.setTop (mkF m 76 #[.val (.int i1)] [(.int (8 : Int32)), (.int i1)])) t := by
                      intro t kt
                      show Steps p.tables e below (s₁.setTop (mkF m 76 #[.val (.int i1)] [(.int (8 : Int32)), (.int i1)])) _
                      refine XS.icmpNo X0.here hx rfl (hb hby d1_76) rfl (teq hc42).2 ?_
                      exact kt
                    obtain ⟨T44, X44, e44, st44⟩ := getS2 X0 hx hZ hown (host := "") (Or.inl (hw _ (List.mem_of_getElem? (i := 35) rfl))) Via.refl e0 S_8 (g := (mkF m 79 #[.val (.int i1)] [])) rfl (hb hby d1_79)
                    have C45 : ∀ t, Steps p.tables e below (T44.setTop (mkF m 82 #[.val (.int i1)] [(.ref (A 8))])) t → Steps p.tables e below (s₁.setTop (mkF m 0 #[.val (.int i1)] [])) t := (fun t k => (S1 t (S6 t (S11 t (S16 t (S21 t (S26 t (S31 t (S36 t (S41 t (S43 t (st44 t k))))))))))))
                    obtain ⟨fs, hr, hrun, hended, hW, hsame⟩ := X44.leave (v := some (.ref (A 8))) (fun h => by rw [Bd.returns] at h; cases h)
                    refine ⟨_, _, pre0 _ (C45 _ ?_), hrun, hended, _, _, rfl, ?_, ⟨_, rfl⟩, hW, hsame.mono (by decide) (by decide)⟩
                    · exact retOut X44 hx Bd.returns rfl (Or.inr (Or.inr (Or.inr (Or.inr ⟨rfl, rfl, rfl⟩)))) (hb hby d1_82) hr
                    · show Q_rm1 Z A i1 k h0 n0 _ T44.heap _
                      rw [e44]
                      exact ⟨by rw [own_keq (j := 8) hk hc42 (by decide)], N0, rfl⟩
                  · have S46 : ∀ t, Steps p.tables e below (s₁.setTop (mkF m 86 #[.val (.int i1)] [(.int (9 : Int32)), (.int i1)])) t → Steps p.tables e below (s₁.setTop (mkF m 76 #[.val (.int i1)] [(.int (8 : Int32)), (.int i1)])) t := by
                      intro t kt
                      show Steps p.tables e below (s₁.setTop (mkF m 76 #[.val (.int i1)] [(.int (8 : Int32)), (.int i1)])) _
                      refine XS.icmpYes X0.here hx rfl (pc0 := 76) (pc' := 83) rfl (hb hby d1_76) rfl (feq hc42).2 (by decide) (by decide) ?_
                      show Steps p.tables e below (s₁.setTop (mkF m 83 #[.val (.int i1)] [])) _
                      refine XS.iloadN X0.here hx rfl (hb hby d1_83) rfl ?_
                      show Steps p.tables e below (s₁.setTop (mkF m 84 #[.val (.int i1)] [(.int i1)])) _
                      refine XS.bipush X0.here hx rfl (hb hby d1_84) ?_
                      exact kt
                    by_cases hc47 : i1 = (9 : Int32)
                    · have S48 : ∀ t, Steps p.tables e below (s₁.setTop (mkF m 89 #[.val (.int i1)] [])) t → Steps p.tables e below (s₁.setTop (mkF m 86 #[.val (.int i1)] [(.int (9 : Int32)), (.int i1)])) t := by
                        intro t kt
                        show Steps p.tables e below (s₁.setTop (mkF m 86 #[.val (.int i1)] [(.int (9 : Int32)), (.int i1)])) _
                        refine XS.icmpNo X0.here hx rfl (hb hby d1_86) rfl (teq hc47).2 ?_
                        exact kt
                      obtain ⟨T49, X49, e49, st49⟩ := getS2 X0 hx hZ hown (host := "") (Or.inl (hw _ (List.mem_of_getElem? (i := 28) rfl))) Via.refl e0 S_9 (g := (mkF m 89 #[.val (.int i1)] [])) rfl (hb hby d1_89)
                      have C50 : ∀ t, Steps p.tables e below (T49.setTop (mkF m 92 #[.val (.int i1)] [(.ref (A 9))])) t → Steps p.tables e below (s₁.setTop (mkF m 0 #[.val (.int i1)] [])) t := (fun t k => (S1 t (S6 t (S11 t (S16 t (S21 t (S26 t (S31 t (S36 t (S41 t (S46 t (S48 t (st49 t k)))))))))))))
                      obtain ⟨fs, hr, hrun, hended, hW, hsame⟩ := X49.leave (v := some (.ref (A 9))) (fun h => by rw [Bd.returns] at h; cases h)
                      refine ⟨_, _, pre0 _ (C50 _ ?_), hrun, hended, _, _, rfl, ?_, ⟨_, rfl⟩, hW, hsame.mono (by decide) (by decide)⟩
                      · exact retOut X49 hx Bd.returns rfl (Or.inr (Or.inr (Or.inr (Or.inr ⟨rfl, rfl, rfl⟩)))) (hb hby d1_92) hr
                      · show Q_rm1 Z A i1 k h0 n0 _ T49.heap _
                        rw [e49]
                        exact ⟨by rw [own_keq (j := 9) hk hc47 (by decide)], N0, rfl⟩
                    · have S51 : ∀ t, Steps p.tables e below (s₁.setTop (mkF m 96 #[.val (.int i1)] [(.int (10 : Int32)), (.int i1)])) t → Steps p.tables e below (s₁.setTop (mkF m 86 #[.val (.int i1)] [(.int (9 : Int32)), (.int i1)])) t := by
                        intro t kt
                        show Steps p.tables e below (s₁.setTop (mkF m 86 #[.val (.int i1)] [(.int (9 : Int32)), (.int i1)])) _
                        refine XS.icmpYes X0.here hx rfl (pc0 := 86) (pc' := 93) rfl (hb hby d1_86) rfl (feq hc47).2 (by decide) (by decide) ?_
                        show Steps p.tables e below (s₁.setTop (mkF m 93 #[.val (.int i1)] [])) _
                        refine XS.iloadN X0.here hx rfl (hb hby d1_93) rfl ?_
                        show Steps p.tables e below (s₁.setTop (mkF m 94 #[.val (.int i1)] [(.int i1)])) _
                        refine XS.bipush X0.here hx rfl (hb hby d1_94) ?_
                        exact kt
                      by_cases hc52 : i1 = (10 : Int32)
                      · have S53 : ∀ t, Steps p.tables e below (s₁.setTop (mkF m 99 #[.val (.int i1)] [])) t → Steps p.tables e below (s₁.setTop (mkF m 96 #[.val (.int i1)] [(.int (10 : Int32)), (.int i1)])) t := by
                          intro t kt
                          show Steps p.tables e below (s₁.setTop (mkF m 96 #[.val (.int i1)] [(.int (10 : Int32)), (.int i1)])) _
                          refine XS.icmpNo X0.here hx rfl (hb hby d1_96) rfl (teq hc52).2 ?_
                          exact kt
                        obtain ⟨T54, X54, e54, st54⟩ := getS2 X0 hx hZ hown (host := "") (Or.inl (hw _ (List.mem_of_getElem? (i := 33) rfl))) Via.refl e0 S_10 (g := (mkF m 99 #[.val (.int i1)] [])) rfl (hb hby d1_99)
                        have C55 : ∀ t, Steps p.tables e below (T54.setTop (mkF m 102 #[.val (.int i1)] [(.ref (A 10))])) t → Steps p.tables e below (s₁.setTop (mkF m 0 #[.val (.int i1)] [])) t := (fun t k => (S1 t (S6 t (S11 t (S16 t (S21 t (S26 t (S31 t (S36 t (S41 t (S46 t (S51 t (S53 t (st54 t k))))))))))))))
                        obtain ⟨fs, hr, hrun, hended, hW, hsame⟩ := X54.leave (v := some (.ref (A 10))) (fun h => by rw [Bd.returns] at h; cases h)
                        refine ⟨_, _, pre0 _ (C55 _ ?_), hrun, hended, _, _, rfl, ?_, ⟨_, rfl⟩, hW, hsame.mono (by decide) (by decide)⟩
                        · exact retOut X54 hx Bd.returns rfl (Or.inr (Or.inr (Or.inr (Or.inr ⟨rfl, rfl, rfl⟩)))) (hb hby d1_102) hr
                        · show Q_rm1 Z A i1 k h0 n0 _ T54.heap _
                          rw [e54]
                          exact ⟨by rw [own_keq (j := 10) hk hc52 (by decide)], N0, rfl⟩
                      · have S56 : ∀ t, Steps p.tables e below (s₁.setTop (mkF m 106 #[.val (.int i1)] [(.int (11 : Int32)), (.int i1)])) t → Steps p.tables e below (s₁.setTop (mkF m 96 #[.val (.int i1)] [(.int (10 : Int32)), (.int i1)])) t := by
                          intro t kt
                          show Steps p.tables e below (s₁.setTop (mkF m 96 #[.val (.int i1)] [(.int (10 : Int32)), (.int i1)])) _
                          refine XS.icmpYes X0.here hx rfl (pc0 := 96) (pc' := 103) rfl (hb hby d1_96) rfl (feq hc52).2 (by decide) (by decide) ?_
                          show Steps p.tables e below (s₁.setTop (mkF m 103 #[.val (.int i1)] [])) _
                          refine XS.iloadN X0.here hx rfl (hb hby d1_103) rfl ?_
                          show Steps p.tables e below (s₁.setTop (mkF m 104 #[.val (.int i1)] [(.int i1)])) _
                          refine XS.bipush X0.here hx rfl (hb hby d1_104) ?_
                          exact kt
                        by_cases hc57 : i1 = (11 : Int32)
                        · have S58 : ∀ t, Steps p.tables e below (s₁.setTop (mkF m 109 #[.val (.int i1)] [])) t → Steps p.tables e below (s₁.setTop (mkF m 106 #[.val (.int i1)] [(.int (11 : Int32)), (.int i1)])) t := by
                            intro t kt
                            show Steps p.tables e below (s₁.setTop (mkF m 106 #[.val (.int i1)] [(.int (11 : Int32)), (.int i1)])) _
                            refine XS.icmpNo X0.here hx rfl (hb hby d1_106) rfl (teq hc57).2 ?_
                            exact kt
                          obtain ⟨T59, X59, e59, st59⟩ := getS2 X0 hx hZ hown (host := "") (Or.inl (hw _ (List.mem_of_getElem? (i := 45) rfl))) Via.refl e0 S_11 (g := (mkF m 109 #[.val (.int i1)] [])) rfl (hb hby d1_109)
                          have C60 : ∀ t, Steps p.tables e below (T59.setTop (mkF m 112 #[.val (.int i1)] [(.ref (A 11))])) t → Steps p.tables e below (s₁.setTop (mkF m 0 #[.val (.int i1)] [])) t := (fun t k => (S1 t (S6 t (S11 t (S16 t (S21 t (S26 t (S31 t (S36 t (S41 t (S46 t (S51 t (S56 t (S58 t (st59 t k)))))))))))))))
                          obtain ⟨fs, hr, hrun, hended, hW, hsame⟩ := X59.leave (v := some (.ref (A 11))) (fun h => by rw [Bd.returns] at h; cases h)
                          refine ⟨_, _, pre0 _ (C60 _ ?_), hrun, hended, _, _, rfl, ?_, ⟨_, rfl⟩, hW, hsame.mono (by decide) (by decide)⟩
                          · exact retOut X59 hx Bd.returns rfl (Or.inr (Or.inr (Or.inr (Or.inr ⟨rfl, rfl, rfl⟩)))) (hb hby d1_112) hr
                          · show Q_rm1 Z A i1 k h0 n0 _ T59.heap _
                            rw [e59]
                            exact ⟨by rw [own_keq (j := 11) hk hc57 (by decide)], N0, rfl⟩
                        · have S61 : ∀ t, Steps p.tables e below (s₁.setTop (mkF m 116 #[.val (.int i1)] [(.int (12 : Int32)), (.int i1)])) t → Steps p.tables e below (s₁.setTop (mkF m 106 #[.val (.int i1)] [(.int (11 : Int32)), (.int i1)])) t := by
                            intro t kt
                            show Steps p.tables e below (s₁.setTop (mkF m 106 #[.val (.int i1)] [(.int (11 : Int32)), (.int i1)])) _
                            refine XS.icmpYes X0.here hx rfl (pc0 := 106) (pc' := 113) rfl (hb hby d1_106) rfl (feq hc57).2 (by decide) (by decide) ?_
                            show Steps p.tables e below (s₁.setTop (mkF m 113 #[.val (.int i1)] [])) _
                            refine XS.iloadN X0.here hx rfl (hb hby d1_113) rfl ?_
                            show Steps p.tables e below (s₁.setTop (mkF m 114 #[.val (.int i1)] [(.int i1)])) _
                            refine XS.bipush X0.here hx rfl (hb hby d1_114) ?_
                            exact kt
                          by_cases hc62 : i1 = (12 : Int32)
                          · have S63 : ∀ t, Steps p.tables e below (s₁.setTop (mkF m 119 #[.val (.int i1)] [])) t → Steps p.tables e below (s₁.setTop (mkF m 116 #[.val (.int i1)] [(.int (12 : Int32)), (.int i1)])) t := by
                              intro t kt
                              show Steps p.tables e below (s₁.setTop (mkF m 116 #[.val (.int i1)] [(.int (12 : Int32)), (.int i1)])) _
                              refine XS.icmpNo X0.here hx rfl (hb hby d1_116) rfl (teq hc62).2 ?_
                              exact kt
                            obtain ⟨T64, X64, e64, st64⟩ := getS2 X0 hx hZ hown (host := "") (Or.inl (hw _ (List.mem_of_getElem? (i := 37) rfl))) Via.refl e0 S_12 (g := (mkF m 119 #[.val (.int i1)] [])) rfl (hb hby d1_119)
                            have C65 : ∀ t, Steps p.tables e below (T64.setTop (mkF m 122 #[.val (.int i1)] [(.ref (A 12))])) t → Steps p.tables e below (s₁.setTop (mkF m 0 #[.val (.int i1)] [])) t := (fun t k => (S1 t (S6 t (S11 t (S16 t (S21 t (S26 t (S31 t (S36 t (S41 t (S46 t (S51 t (S56 t (S61 t (S63 t (st64 t k))))))))))))))))
                            obtain ⟨fs, hr, hrun, hended, hW, hsame⟩ := X64.leave (v := some (.ref (A 12))) (fun h => by rw [Bd.returns] at h; cases h)
                            refine ⟨_, _, pre0 _ (C65 _ ?_), hrun, hended, _, _, rfl, ?_, ⟨_, rfl⟩, hW, hsame.mono (by decide) (by decide)⟩
                            · exact retOut X64 hx Bd.returns rfl (Or.inr (Or.inr (Or.inr (Or.inr ⟨rfl, rfl, rfl⟩)))) (hb hby d1_122) hr
                            · show Q_rm1 Z A i1 k h0 n0 _ T64.heap _
                              rw [e64]
                              exact ⟨by rw [own_keq (j := 12) hk hc62 (by decide)], N0, rfl⟩
                          · have S66 : ∀ t, Steps p.tables e below (s₁.setTop (mkF m 126 #[.val (.int i1)] [(.int (13 : Int32)), (.int i1)])) t → Steps p.tables e below (s₁.setTop (mkF m 116 #[.val (.int i1)] [(.int (12 : Int32)), (.int i1)])) t := by
                              intro t kt
                              show Steps p.tables e below (s₁.setTop (mkF m 116 #[.val (.int i1)] [(.int (12 : Int32)), (.int i1)])) _
                              refine XS.icmpYes X0.here hx rfl (pc0 := 116) (pc' := 123) rfl (hb hby d1_116) rfl (feq hc62).2 (by decide) (by decide) ?_
                              show Steps p.tables e below (s₁.setTop (mkF m 123 #[.val (.int i1)] [])) _
                              refine XS.iloadN X0.here hx rfl (hb hby d1_123) rfl ?_
                              show Steps p.tables e below (s₁.setTop (mkF m 124 #[.val (.int i1)] [(.int i1)])) _
                              refine XS.bipush X0.here hx rfl (hb hby d1_124) ?_
                              exact kt
                            by_cases hc67 : i1 = (13 : Int32)
                            · have S68 : ∀ t, Steps p.tables e below (s₁.setTop (mkF m 129 #[.val (.int i1)] [])) t → Steps p.tables e below (s₁.setTop (mkF m 126 #[.val (.int i1)] [(.int (13 : Int32)), (.int i1)])) t := by
                                intro t kt
                                show Steps p.tables e below (s₁.setTop (mkF m 126 #[.val (.int i1)] [(.int (13 : Int32)), (.int i1)])) _
                                refine XS.icmpNo X0.here hx rfl (hb hby d1_126) rfl (teq hc67).2 ?_
                                exact kt
                              obtain ⟨T69, X69, e69, st69⟩ := getS2 X0 hx hZ hown (host := "") (Or.inl (hw _ (List.mem_of_getElem? (i := 21) rfl))) Via.refl e0 S_13 (g := (mkF m 129 #[.val (.int i1)] [])) rfl (hb hby d1_129)
                              have C70 : ∀ t, Steps p.tables e below (T69.setTop (mkF m 132 #[.val (.int i1)] [(.ref (A 13))])) t → Steps p.tables e below (s₁.setTop (mkF m 0 #[.val (.int i1)] [])) t := (fun t k => (S1 t (S6 t (S11 t (S16 t (S21 t (S26 t (S31 t (S36 t (S41 t (S46 t (S51 t (S56 t (S61 t (S66 t (S68 t (st69 t k)))))))))))))))))
                              obtain ⟨fs, hr, hrun, hended, hW, hsame⟩ := X69.leave (v := some (.ref (A 13))) (fun h => by rw [Bd.returns] at h; cases h)
                              refine ⟨_, _, pre0 _ (C70 _ ?_), hrun, hended, _, _, rfl, ?_, ⟨_, rfl⟩, hW, hsame.mono (by decide) (by decide)⟩
                              · exact retOut X69 hx Bd.returns rfl (Or.inr (Or.inr (Or.inr (Or.inr ⟨rfl, rfl, rfl⟩)))) (hb hby d1_132) hr
                              · show Q_rm1 Z A i1 k h0 n0 _ T69.heap _
                                rw [e69]
                                exact ⟨by rw [own_keq (j := 13) hk hc67 (by decide)], N0, rfl⟩
                            · have S71 : ∀ t, Steps p.tables e below (s₁.setTop (mkF m 136 #[.val (.int i1)] [(.int (14 : Int32)), (.int i1)])) t → Steps p.tables e below (s₁.setTop (mkF m 126 #[.val (.int i1)] [(.int (13 : Int32)), (.int i1)])) t := by
                                intro t kt
                                show Steps p.tables e below (s₁.setTop (mkF m 126 #[.val (.int i1)] [(.int (13 : Int32)), (.int i1)])) _
                                refine XS.icmpYes X0.here hx rfl (pc0 := 126) (pc' := 133) rfl (hb hby d1_126) rfl (feq hc67).2 (by decide) (by decide) ?_
                                show Steps p.tables e below (s₁.setTop (mkF m 133 #[.val (.int i1)] [])) _
                                refine XS.iloadN X0.here hx rfl (hb hby d1_133) rfl ?_
                                show Steps p.tables e below (s₁.setTop (mkF m 134 #[.val (.int i1)] [(.int i1)])) _
                                refine XS.bipush X0.here hx rfl (hb hby d1_134) ?_
                                exact kt
                              by_cases hc72 : i1 = (14 : Int32)
                              · have S73 : ∀ t, Steps p.tables e below (s₁.setTop (mkF m 139 #[.val (.int i1)] [])) t → Steps p.tables e below (s₁.setTop (mkF m 136 #[.val (.int i1)] [(.int (14 : Int32)), (.int i1)])) t := by
                                  intro t kt
                                  show Steps p.tables e below (s₁.setTop (mkF m 136 #[.val (.int i1)] [(.int (14 : Int32)), (.int i1)])) _
                                  refine XS.icmpNo X0.here hx rfl (hb hby d1_136) rfl (teq hc72).2 ?_
                                  exact kt
                                obtain ⟨T74, X74, e74, st74⟩ := getS2 X0 hx hZ hown (host := "") (Or.inl (hw _ (List.mem_of_getElem? (i := 17) rfl))) Via.refl e0 S_14 (g := (mkF m 139 #[.val (.int i1)] [])) rfl (hb hby d1_139)
                                have C75 : ∀ t, Steps p.tables e below (T74.setTop (mkF m 142 #[.val (.int i1)] [(.ref (A 14))])) t → Steps p.tables e below (s₁.setTop (mkF m 0 #[.val (.int i1)] [])) t := (fun t k => (S1 t (S6 t (S11 t (S16 t (S21 t (S26 t (S31 t (S36 t (S41 t (S46 t (S51 t (S56 t (S61 t (S66 t (S71 t (S73 t (st74 t k))))))))))))))))))
                                obtain ⟨fs, hr, hrun, hended, hW, hsame⟩ := X74.leave (v := some (.ref (A 14))) (fun h => by rw [Bd.returns] at h; cases h)
                                refine ⟨_, _, pre0 _ (C75 _ ?_), hrun, hended, _, _, rfl, ?_, ⟨_, rfl⟩, hW, hsame.mono (by decide) (by decide)⟩
                                · exact retOut X74 hx Bd.returns rfl (Or.inr (Or.inr (Or.inr (Or.inr ⟨rfl, rfl, rfl⟩)))) (hb hby d1_142) hr
                                · show Q_rm1 Z A i1 k h0 n0 _ T74.heap _
                                  rw [e74]
                                  exact ⟨by rw [own_keq (j := 14) hk hc72 (by decide)], N0, rfl⟩
                              · have S76 : ∀ t, Steps p.tables e below (s₁.setTop (mkF m 146 #[.val (.int i1)] [(.int (15 : Int32)), (.int i1)])) t → Steps p.tables e below (s₁.setTop (mkF m 136 #[.val (.int i1)] [(.int (14 : Int32)), (.int i1)])) t := by
                                  intro t kt
                                  show Steps p.tables e below (s₁.setTop (mkF m 136 #[.val (.int i1)] [(.int (14 : Int32)), (.int i1)])) _
                                  refine XS.icmpYes X0.here hx rfl (pc0 := 136) (pc' := 143) rfl (hb hby d1_136) rfl (feq hc72).2 (by decide) (by decide) ?_
                                  show Steps p.tables e below (s₁.setTop (mkF m 143 #[.val (.int i1)] [])) _
                                  refine XS.iloadN X0.here hx rfl (hb hby d1_143) rfl ?_
                                  show Steps p.tables e below (s₁.setTop (mkF m 144 #[.val (.int i1)] [(.int i1)])) _
                                  refine XS.bipush X0.here hx rfl (hb hby d1_144) ?_
                                  exact kt
                                by_cases hc77 : i1 = (15 : Int32)
                                · have S78 : ∀ t, Steps p.tables e below (s₁.setTop (mkF m 149 #[.val (.int i1)] [])) t → Steps p.tables e below (s₁.setTop (mkF m 146 #[.val (.int i1)] [(.int (15 : Int32)), (.int i1)])) t := by
                                    intro t kt
                                    show Steps p.tables e below (s₁.setTop (mkF m 146 #[.val (.int i1)] [(.int (15 : Int32)), (.int i1)])) _
                                    refine XS.icmpNo X0.here hx rfl (hb hby d1_146) rfl (teq hc77).2 ?_
                                    exact kt
                                  obtain ⟨T79, X79, e79, st79⟩ := getS2 X0 hx hZ hown (host := "") (Or.inl (hw _ (List.mem_of_getElem? (i := 47) rfl))) Via.refl e0 S_15 (g := (mkF m 149 #[.val (.int i1)] [])) rfl (hb hby d1_149)
                                  have C80 : ∀ t, Steps p.tables e below (T79.setTop (mkF m 152 #[.val (.int i1)] [(.ref (A 15))])) t → Steps p.tables e below (s₁.setTop (mkF m 0 #[.val (.int i1)] [])) t := (fun t k => (S1 t (S6 t (S11 t (S16 t (S21 t (S26 t (S31 t (S36 t (S41 t (S46 t (S51 t (S56 t (S61 t (S66 t (S71 t (S76 t (S78 t (st79 t k)))))))))))))))))))
                                  obtain ⟨fs, hr, hrun, hended, hW, hsame⟩ := X79.leave (v := some (.ref (A 15))) (fun h => by rw [Bd.returns] at h; cases h)
                                  refine ⟨_, _, pre0 _ (C80 _ ?_), hrun, hended, _, _, rfl, ?_, ⟨_, rfl⟩, hW, hsame.mono (by decide) (by decide)⟩
                                  · exact retOut X79 hx Bd.returns rfl (Or.inr (Or.inr (Or.inr (Or.inr ⟨rfl, rfl, rfl⟩)))) (hb hby d1_152) hr
                                  · show Q_rm1 Z A i1 k h0 n0 _ T79.heap _
                                    rw [e79]
                                    exact ⟨by rw [own_keq (j := 15) hk hc77 (by decide)], N0, rfl⟩
                                · have S81 : ∀ t, Steps p.tables e below (s₁.setTop (mkF m 156 #[.val (.int i1)] [(.int (16 : Int32)), (.int i1)])) t → Steps p.tables e below (s₁.setTop (mkF m 146 #[.val (.int i1)] [(.int (15 : Int32)), (.int i1)])) t := by
                                    intro t kt
                                    show Steps p.tables e below (s₁.setTop (mkF m 146 #[.val (.int i1)] [(.int (15 : Int32)), (.int i1)])) _
                                    refine XS.icmpYes X0.here hx rfl (pc0 := 146) (pc' := 153) rfl (hb hby d1_146) rfl (feq hc77).2 (by decide) (by decide) ?_
                                    show Steps p.tables e below (s₁.setTop (mkF m 153 #[.val (.int i1)] [])) _
                                    refine XS.iloadN X0.here hx rfl (hb hby d1_153) rfl ?_
                                    show Steps p.tables e below (s₁.setTop (mkF m 154 #[.val (.int i1)] [(.int i1)])) _
                                    refine XS.bipush X0.here hx rfl (hb hby d1_154) ?_
                                    exact kt
                                  by_cases hc82 : i1 = (16 : Int32)
                                  · have S83 : ∀ t, Steps p.tables e below (s₁.setTop (mkF m 159 #[.val (.int i1)] [])) t → Steps p.tables e below (s₁.setTop (mkF m 156 #[.val (.int i1)] [(.int (16 : Int32)), (.int i1)])) t := by
                                      intro t kt
                                      show Steps p.tables e below (s₁.setTop (mkF m 156 #[.val (.int i1)] [(.int (16 : Int32)), (.int i1)])) _
                                      refine XS.icmpNo X0.here hx rfl (hb hby d1_156) rfl (teq hc82).2 ?_
                                      exact kt
                                    obtain ⟨T84, X84, e84, st84⟩ := getS2 X0 hx hZ hown (host := "") (Or.inl (hw _ (List.mem_of_getElem? (i := 44) rfl))) Via.refl e0 S_16 (g := (mkF m 159 #[.val (.int i1)] [])) rfl (hb hby d1_159)
                                    have C85 : ∀ t, Steps p.tables e below (T84.setTop (mkF m 162 #[.val (.int i1)] [(.ref (A 16))])) t → Steps p.tables e below (s₁.setTop (mkF m 0 #[.val (.int i1)] [])) t := (fun t k => (S1 t (S6 t (S11 t (S16 t (S21 t (S26 t (S31 t (S36 t (S41 t (S46 t (S51 t (S56 t (S61 t (S66 t (S71 t (S76 t (S81 t (S83 t (st84 t k))))))))))))))))))))
                                    obtain ⟨fs, hr, hrun, hended, hW, hsame⟩ := X84.leave (v := some (.ref (A 16))) (fun h => by rw [Bd.returns] at h; cases h)
                                    refine ⟨_, _, pre0 _ (C85 _ ?_), hrun, hended, _, _, rfl, ?_, ⟨_, rfl⟩, hW, hsame.mono (by decide) (by decide)⟩
                                    · exact retOut X84 hx Bd.returns rfl (Or.inr (Or.inr (Or.inr (Or.inr ⟨rfl, rfl, rfl⟩)))) (hb hby d1_162) hr
                                    · show Q_rm1 Z A i1 k h0 n0 _ T84.heap _
                                      rw [e84]
                                      exact ⟨by rw [own_keq (j := 16) hk hc82 (by decide)], N0, rfl⟩
                                  · have S86 : ∀ t, Steps p.tables e below (s₁.setTop (mkF m 166 #[.val (.int i1)] [(.int (17 : Int32)), (.int i1)])) t → Steps p.tables e below (s₁.setTop (mkF m 156 #[.val (.int i1)] [(.int (16 : Int32)), (.int i1)])) t := by
                                      intro t kt
                                      show Steps p.tables e below (s₁.setTop (mkF m 156 #[.val (.int i1)] [(.int (16 : Int32)), (.int i1)])) _
                                      refine XS.icmpYes X0.here hx rfl (pc0 := 156) (pc' := 163) rfl (hb hby d1_156) rfl (feq hc82).2 (by decide) (by decide) ?_
                                      show Steps p.tables e below (s₁.setTop (mkF m 163 #[.val (.int i1)] [])) _
                                      refine XS.iloadN X0.here hx rfl (hb hby d1_163) rfl ?_
                                      show Steps p.tables e below (s₁.setTop (mkF m 164 #[.val (.int i1)] [(.int i1)])) _
                                      refine XS.bipush X0.here hx rfl (hb hby d1_164) ?_
                                      exact kt
                                    by_cases hc87 : i1 = (17 : Int32)
                                    · have S88 : ∀ t, Steps p.tables e below (s₁.setTop (mkF m 169 #[.val (.int i1)] [])) t → Steps p.tables e below (s₁.setTop (mkF m 166 #[.val (.int i1)] [(.int (17 : Int32)), (.int i1)])) t := by
                                        intro t kt
                                        show Steps p.tables e below (s₁.setTop (mkF m 166 #[.val (.int i1)] [(.int (17 : Int32)), (.int i1)])) _
                                        refine XS.icmpNo X0.here hx rfl (hb hby d1_166) rfl (teq hc87).2 ?_
                                        exact kt
                                      obtain ⟨T89, X89, e89, st89⟩ := getS2 X0 hx hZ hown (host := "") (Or.inl (hw _ (List.mem_of_getElem? (i := 23) rfl))) Via.refl e0 S_17 (g := (mkF m 169 #[.val (.int i1)] [])) rfl (hb hby d1_169)
                                      have C90 : ∀ t, Steps p.tables e below (T89.setTop (mkF m 172 #[.val (.int i1)] [(.ref (A 17))])) t → Steps p.tables e below (s₁.setTop (mkF m 0 #[.val (.int i1)] [])) t := (fun t k => (S1 t (S6 t (S11 t (S16 t (S21 t (S26 t (S31 t (S36 t (S41 t (S46 t (S51 t (S56 t (S61 t (S66 t (S71 t (S76 t (S81 t (S86 t (S88 t (st89 t k)))))))))))))))))))))
                                      obtain ⟨fs, hr, hrun, hended, hW, hsame⟩ := X89.leave (v := some (.ref (A 17))) (fun h => by rw [Bd.returns] at h; cases h)
                                      refine ⟨_, _, pre0 _ (C90 _ ?_), hrun, hended, _, _, rfl, ?_, ⟨_, rfl⟩, hW, hsame.mono (by decide) (by decide)⟩
                                      · exact retOut X89 hx Bd.returns rfl (Or.inr (Or.inr (Or.inr (Or.inr ⟨rfl, rfl, rfl⟩)))) (hb hby d1_172) hr
                                      · show Q_rm1 Z A i1 k h0 n0 _ T89.heap _
                                        rw [e89]
                                        exact ⟨by rw [own_keq (j := 17) hk hc87 (by decide)], N0, rfl⟩
                                    · have S91 : ∀ t, Steps p.tables e below (s₁.setTop (mkF m 173 #[.val (.int i1)] [])) t → Steps p.tables e below (s₁.setTop (mkF m 166 #[.val (.int i1)] [(.int (17 : Int32)), (.int i1)])) t := by
                                        intro t kt
                                        show Steps p.tables e below (s₁.setTop (mkF m 166 #[.val (.int i1)] [(.int (17 : Int32)), (.int i1)])) _
                                        refine XS.icmpYes X0.here hx rfl (pc0 := 166) (pc' := 173) rfl (hb hby d1_166) rfl (feq hc87).2 (by decide) (by decide) ?_
                                        exact kt
                                      obtain ⟨T92, X92, e92, st92⟩ := getS2 X0 hx hZ hown (host := "") (Or.inl (hw _ (List.mem_of_getElem? (i := 49) rfl))) Via.refl e0 S_18 (g := (mkF m 173 #[.val (.int i1)] [])) rfl (hb hby d1_173)
                                      have C93 : ∀ t, Steps p.tables e below (T92.setTop (mkF m 176 #[.val (.int i1)] [(.ref (A 18))])) t → Steps p.tables e below (s₁.setTop (mkF m 0 #[.val (.int i1)] [])) t := (fun t k => (S1 t (S6 t (S11 t (S16 t (S21 t (S26 t (S31 t (S36 t (S41 t (S46 t (S51 t (S56 t (S61 t (S66 t (S71 t (S76 t (S81 t (S86 t (S91 t (st92 t k)))))))))))))))))))))
                                      obtain ⟨fs, hr, hrun, hended, hW, hsame⟩ := X92.leave (v := some (.ref (A 18))) (fun h => by rw [Bd.returns] at h; cases h)
                                      refine ⟨_, _, pre0 _ (C93 _ ?_), hrun, hended, _, _, rfl, ?_, ⟨_, rfl⟩, hW, hsame.mono (by decide) (by decide)⟩
                                      · exact retOut X92 hx Bd.returns rfl (Or.inr (Or.inr (Or.inr (Or.inr ⟨rfl, rfl, rfl⟩)))) (hb hby d1_176) hr
                                      · show Q_rm1 Z A i1 k h0 n0 _ T92.heap _
                                        rw [e92]
                                        exact ⟨by rw [show k = 18 from by have h18 := hk.2; have z0 := own_kne (j := 0) hk hc2 (by decide); have z1 := own_kne (j := 1) hk hc7 (by decide); have z2 := own_kne (j := 2) hk hc12 (by decide); have z3 := own_kne (j := 3) hk hc17 (by decide); have z4 := own_kne (j := 4) hk hc22 (by decide); have z5 := own_kne (j := 5) hk hc27 (by decide); have z6 := own_kne (j := 6) hk hc32 (by decide); have z7 := own_kne (j := 7) hk hc37 (by decide); have z8 := own_kne (j := 8) hk hc42 (by decide); have z9 := own_kne (j := 9) hk hc47 (by decide); have z10 := own_kne (j := 10) hk hc52 (by decide); have z11 := own_kne (j := 11) hk hc57 (by decide); have z12 := own_kne (j := 12) hk hc62 (by decide); have z13 := own_kne (j := 13) hk hc67 (by decide); have z14 := own_kne (j := 14) hk hc72 (by decide); have z15 := own_kne (j := 15) hk hc77 (by decide); have z16 := own_kne (j := 16) hk hc82 (by decide); have z17 := own_kne (j := 17) hk hc87 (by decide); omega], N0, rfl⟩
theorem ef_rm_n1 (m : MethodId) (x0 : Addr) (x1 : Addr) : entryFrame m #[(.ref x0), (.ref x1)] 2 = mkF m 0 #[.val (.ref x0), .val (.ref x1)] [] := by first | (simp [entryFrame, mkF, argsToLocals, Value.category]; done) | rfl
def Q_rm_n1 (Z : State) (a1 : Addr) (h0 : Heap) (n0 : Nat) (v : Option Value) (h : Heap) (L : List Loc) : Prop := v = some (.int 1) ∧ Fr n0 L ∧ h = h0
set_option maxRecDepth 65536 in
set_option maxHeartbeats 40000000 in
theorem rm_n1 (l : Launch) (Z : State) (a0 : Array Value) (hw : ∀ d ∈ tables_1, d.before a0 Z = true) (ws : List Jvm.Cond) (a1 : Addr) (h0 : Heap) (n0 : Nat) (Z0 : n0 ≤ h0.size)  :
    MetFree l (⟨"com/example/bough3/bough3/model/SecurableType", "names", "(Lcom/example/bough3/bough3/model/SecurableType;)Z"⟩ : MethodName) (head1 (Jvm.Cond.code (⟨"com/example/bough3/bough3/model/SecurableType", "names", "(Lcom/example/bough3/bough3/model/SecurableType;)Z"⟩ : MethodName) prog_55_method_8_code 2 (some .boolean) :: ws) ({ frames := 0, cells := 0, slots := 0, locals := 0 } : Room)) (fun a U => a = #[(.ref a1), (.ref a1)] ∧ Z.Warmed39 U.vm ∧ U.heap = h0) (fun _ _ _ _ _ => True) (fun _ U o U' => ∃ v L, o = .returned v ∧ Q_rm_n1 Z a1 h0 n0 v U'.heap L ∧ FrameEnd U o U' L ({ frames := 0, cells := 0, slots := 0, locals := 0 } : Room).cells ({ frames := 0, cells := 0, slots := 0, locals := 0 } : Room).slots) := by
  refine MetFree.of_bodySF (plainFor_of_name pn_1) hisR ?_
  intro p e s m args below meth c s₁ Bd hml0 hP hK
  obtain ⟨rfl, hZ, hh⟩ := hP
  have hx := Bd.exec
  have hby := Bd.bytes
  have hml : c.maxLocals = 2 := hml0
  have hown : s.vm.findClass "com/example/bough3/bough3/model/SecurableType" = some m.cls := findClass_of_methodNamed Bd.named
  have hnm := (name_of_methodNamed Bd.named Bd.method).1
  have X0 : Stand p l e ({ frames := 0, cells := 0, slots := 0, locals := 0 } : Room) s m #[(.ref a1), (.ref a1)] below meth c s₁ [] 0 0 := Stand.of_body Bd
  have e0 : s₁.heap = h0 := by rw [← hh, Bd.state]; rfl
  have N0 := Fr.nil n0
  have pre0 : ∀ t, Steps p.tables e below (s₁.setTop (mkF m 0 #[.val (.ref a1), .val (.ref a1)] [])) t → Steps p.tables e below (s₁.setTop (entryFrame m #[(.ref a1), (.ref a1)] 2)) t := fun t k => castTop (ef_rm_n1 m a1 a1) k
  have S94 : ∀ t, Steps p.tables e below (s₁.setTop (mkF m 18 #[.val (.ref a1), .val (.ref a1)] [(.int (1 : Int32))])) t → Steps p.tables e below (s₁.setTop (mkF m 0 #[.val (.ref a1), .val (.ref a1)] [])) t := by
    intro t kt
    show Steps p.tables e below (s₁.setTop (mkF m 0 #[.val (.ref a1), .val (.ref a1)] [])) _
    refine XS.aloadN X0.here hx rfl (hb hby d2_0) rfl rfl ?_
    show Steps p.tables e below (s₁.setTop (mkF m 1 #[.val (.ref a1), .val (.ref a1)] [(.ref a1)])) _
    refine XS.aloadN X0.here hx rfl (hb hby d2_1) rfl rfl ?_
    show Steps p.tables e below (s₁.setTop (mkF m 2 #[.val (.ref a1), .val (.ref a1)] [(.ref a1), (.ref a1)])) _
    refine Jvm.RoadKit.acmp (g := (mkF m 2 #[.val (.ref a1), .val (.ref a1)] [(.ref a1), (.ref a1)])) X0 hx rfl rfl rfl (pc0 := 2) (pc' := 13) (same := true) rfl (hb hby d2_2) rfl (decide_eq_true rfl) (by decide) (by decide) ?_
    show Steps p.tables e below (s₁.setTop (mkF m 13 #[.val (.ref a1), .val (.ref a1)] [])) _
    refine XS.iconst X0.here hx rfl (hb hby d2_13) ?_
    show Steps p.tables e below (s₁.setTop (mkF m 14 #[.val (.ref a1), .val (.ref a1)] [(.int (1 : Int32))])) _
    refine XS.goto X0.here hx rfl (pc0 := 14) (pc' := 18) rfl (hb hby d2_14) (by decide) (by decide) ?_
    exact kt
  have C95 : ∀ t, Steps p.tables e below (s₁.setTop (mkF m 18 #[.val (.ref a1), .val (.ref a1)] [(.int (1 : Int32))])) t → Steps p.tables e below (s₁.setTop (mkF m 0 #[.val (.ref a1), .val (.ref a1)] [])) t := (fun t k => (S94 t k))
  obtain ⟨fs, hr, hrun, hended, hW, hsame⟩ := X0.leave (v := some (.int (1 : Int32))) (fun h => by rw [Bd.returns] at h; cases h)
  refine ⟨_, _, pre0 _ (C95 _ ?_), hrun, hended, _, _, rfl, ?_, ⟨_, rfl⟩, hW, hsame.mono (by decide) (by decide)⟩
  · exact retN X0 hx (t := .boolean) Bd.returns (by simp) (hb hby d2_18) hr
  · show Q_rm_n1 Z a1 h0 n0 _ s₁.heap _
    rw [e0]
    exact ⟨rfl, N0, rfl⟩
theorem ef_rm_n2 (m : MethodId) (x0 : Addr) (x1 : Addr) : entryFrame m #[(.ref x0), (.ref x1)] 2 = mkF m 0 #[.val (.ref x0), .val (.ref x1)] [] := by first | (simp [entryFrame, mkF, argsToLocals, Value.category]; done) | rfl
def Q_rm_n2 (Z : State) (a1 : Addr) (b1 : Addr) (h0 : Heap) (n0 : Nat) (v : Option Value) (h : Heap) (L : List Loc) : Prop := v = some (.int 1) ∧ Fr n0 L ∧ h = h0
set_option maxRecDepth 65536 in
set_option maxHeartbeats 40000000 in
theorem rm_n2 (l : Launch) (Z : State) (a0 : Array Value) (hw : ∀ d ∈ tables_1, d.before a0 Z = true) (ws : List Jvm.Cond) (a1 : Addr) (b1 : Addr) (h0 : Heap) (n0 : Nat) (Z0 : n0 ≤ h0.size) (F96 : Fld Z h0 b1 "com/example/bough3/bough3/model/SecurableType" "namedAs" "Lcom/example/bough3/bough3/model/SecurableType;" (.ref a1)) (ne_b1_a1 : b1 ≠ a1) :
    MetFree l (⟨"com/example/bough3/bough3/model/SecurableType", "names", "(Lcom/example/bough3/bough3/model/SecurableType;)Z"⟩ : MethodName) (head1 (Jvm.Cond.code (⟨"com/example/bough3/bough3/model/SecurableType", "names", "(Lcom/example/bough3/bough3/model/SecurableType;)Z"⟩ : MethodName) prog_55_method_8_code 2 (some .boolean) :: ws) ({ frames := 0, cells := 0, slots := 0, locals := 0 } : Room)) (fun a U => a = #[(.ref a1), (.ref b1)] ∧ Z.Warmed39 U.vm ∧ U.heap = h0) (fun _ _ _ _ _ => True) (fun _ U o U' => ∃ v L, o = .returned v ∧ Q_rm_n2 Z a1 b1 h0 n0 v U'.heap L ∧ FrameEnd U o U' L ({ frames := 0, cells := 0, slots := 0, locals := 0 } : Room).cells ({ frames := 0, cells := 0, slots := 0, locals := 0 } : Room).slots) := by
  refine MetFree.of_bodySF (plainFor_of_name pn_1) hisR ?_
  intro p e s m args below meth c s₁ Bd hml0 hP hK
  obtain ⟨rfl, hZ, hh⟩ := hP
  have hx := Bd.exec
  have hby := Bd.bytes
  have hml : c.maxLocals = 2 := hml0
  have hown : s.vm.findClass "com/example/bough3/bough3/model/SecurableType" = some m.cls := findClass_of_methodNamed Bd.named
  have hnm := (name_of_methodNamed Bd.named Bd.method).1
  have X0 : Stand p l e ({ frames := 0, cells := 0, slots := 0, locals := 0 } : Room) s m #[(.ref a1), (.ref b1)] below meth c s₁ [] 0 0 := Stand.of_body Bd
  have e0 : s₁.heap = h0 := by rw [← hh, Bd.state]; rfl
  have N0 := Fr.nil n0
  have pre0 : ∀ t, Steps p.tables e below (s₁.setTop (mkF m 0 #[.val (.ref a1), .val (.ref b1)] [])) t → Steps p.tables e below (s₁.setTop (entryFrame m #[(.ref a1), (.ref b1)] 2)) t := fun t k => castTop (ef_rm_n2 m a1 b1) k
  have S97 : ∀ t, Steps p.tables e below (s₁.setTop (mkF m 6 #[.val (.ref a1), .val (.ref b1)] [(.ref b1)])) t → Steps p.tables e below (s₁.setTop (mkF m 0 #[.val (.ref a1), .val (.ref b1)] [])) t := by
    intro t kt
    show Steps p.tables e below (s₁.setTop (mkF m 0 #[.val (.ref a1), .val (.ref b1)] [])) _
    refine XS.aloadN X0.here hx rfl (hb hby d2_0) rfl rfl ?_
    show Steps p.tables e below (s₁.setTop (mkF m 1 #[.val (.ref a1), .val (.ref b1)] [(.ref b1)])) _
    refine XS.aloadN X0.here hx rfl (hb hby d2_1) rfl rfl ?_
    show Steps p.tables e below (s₁.setTop (mkF m 2 #[.val (.ref a1), .val (.ref b1)] [(.ref a1), (.ref b1)])) _
    refine Jvm.RoadKit.acmp (g := (mkF m 2 #[.val (.ref a1), .val (.ref b1)] [(.ref a1), (.ref b1)])) X0 hx rfl rfl rfl (pc0 := 2) (pc' := 5) (same := false) rfl (hb hby d2_2) rfl (decide_eq_false fun q => ne_b1_a1 (Value.ref.inj q)) (by decide) (by decide) ?_
    show Steps p.tables e below (s₁.setTop (mkF m 5 #[.val (.ref a1), .val (.ref b1)] [])) _
    refine XS.aloadN X0.here hx rfl (hb hby d2_5) rfl rfl ?_
    exact kt
  obtain ⟨T98, X98, e98, st98⟩ := getF X0 hx hZ hown (host := "") (Or.inl (hw _ (List.mem_of_getElem? (i := 15) rfl))) Via.refl e0 F96 (g := (mkF m 6 #[.val (.ref a1), .val (.ref b1)] [(.ref b1)])) rfl rfl (hb hby d2_6)
  have S99 : ∀ t, Steps p.tables e below (T98.setTop (mkF m 18 #[.val (.ref a1), .val (.ref b1)] [(.int (1 : Int32))])) t → Steps p.tables e below (T98.setTop (mkF m 9 #[.val (.ref a1), .val (.ref b1)] [(.ref a1)])) t := by
    intro t kt
    show Steps p.tables e below (T98.setTop (mkF m 9 #[.val (.ref a1), .val (.ref b1)] [(.ref a1)])) _
    refine XS.aloadN X98.here hx rfl (hb hby d2_9) rfl rfl ?_
    show Steps p.tables e below (T98.setTop (mkF m 10 #[.val (.ref a1), .val (.ref b1)] [(.ref a1), (.ref a1)])) _
    refine Jvm.RoadKit.acmp (g := (mkF m 10 #[.val (.ref a1), .val (.ref b1)] [(.ref a1), (.ref a1)])) X98 hx rfl rfl rfl (pc0 := 10) (pc' := 13) (same := true) rfl (hb hby d2_10) rfl (decide_eq_true rfl) (by decide) (by decide) ?_
    show Steps p.tables e below (T98.setTop (mkF m 13 #[.val (.ref a1), .val (.ref b1)] [])) _
    refine XS.iconst X98.here hx rfl (hb hby d2_13) ?_
    show Steps p.tables e below (T98.setTop (mkF m 14 #[.val (.ref a1), .val (.ref b1)] [(.int (1 : Int32))])) _
    refine XS.goto X98.here hx rfl (pc0 := 14) (pc' := 18) rfl (hb hby d2_14) (by decide) (by decide) ?_
    exact kt
  have C100 : ∀ t, Steps p.tables e below (T98.setTop (mkF m 18 #[.val (.ref a1), .val (.ref b1)] [(.int (1 : Int32))])) t → Steps p.tables e below (s₁.setTop (mkF m 0 #[.val (.ref a1), .val (.ref b1)] [])) t := (fun t k => (S97 t (st98 t (S99 t k))))
  obtain ⟨fs, hr, hrun, hended, hW, hsame⟩ := X98.leave (v := some (.int (1 : Int32))) (fun h => by rw [Bd.returns] at h; cases h)
  refine ⟨_, _, pre0 _ (C100 _ ?_), hrun, hended, _, _, rfl, ?_, ⟨_, rfl⟩, hW, hsame.mono (by decide) (by decide)⟩
  · exact retN X98 hx (t := .boolean) Bd.returns (by simp) (hb hby d2_18) hr
  · show Q_rm_n2 Z a1 b1 h0 n0 _ T98.heap _
    rw [e98]
    exact ⟨rfl, N0, rfl⟩
theorem ef_rm_n3 (m : MethodId) (x0 : Addr) (x1 : Addr) : entryFrame m #[(.ref x0), (.ref x1)] 2 = mkF m 0 #[.val (.ref x0), .val (.ref x1)] [] := by first | (simp [entryFrame, mkF, argsToLocals, Value.category]; done) | rfl
def Q_rm_n3 (Z : State) (a1 : Addr) (b1 : Addr) (d1 : Addr) (h0 : Heap) (n0 : Nat) (v : Option Value) (h : Heap) (L : List Loc) : Prop := v = some (.int 0) ∧ Fr n0 L ∧ h = h0
set_option maxRecDepth 65536 in
set_option maxHeartbeats 40000000 in
theorem rm_n3 (l : Launch) (Z : State) (a0 : Array Value) (hw : ∀ d ∈ tables_1, d.before a0 Z = true) (ws : List Jvm.Cond) (a1 : Addr) (b1 : Addr) (d1 : Addr) (h0 : Heap) (n0 : Nat) (Z0 : n0 ≤ h0.size) (F101 : Fld Z h0 b1 "com/example/bough3/bough3/model/SecurableType" "namedAs" "Lcom/example/bough3/bough3/model/SecurableType;" (.ref d1)) (ne_b1_a1 : b1 ≠ a1) (ne_d1_a1 : d1 ≠ a1) :
    MetFree l (⟨"com/example/bough3/bough3/model/SecurableType", "names", "(Lcom/example/bough3/bough3/model/SecurableType;)Z"⟩ : MethodName) (head1 (Jvm.Cond.code (⟨"com/example/bough3/bough3/model/SecurableType", "names", "(Lcom/example/bough3/bough3/model/SecurableType;)Z"⟩ : MethodName) prog_55_method_8_code 2 (some .boolean) :: ws) ({ frames := 0, cells := 0, slots := 0, locals := 0 } : Room)) (fun a U => a = #[(.ref a1), (.ref b1)] ∧ Z.Warmed39 U.vm ∧ U.heap = h0) (fun _ _ _ _ _ => True) (fun _ U o U' => ∃ v L, o = .returned v ∧ Q_rm_n3 Z a1 b1 d1 h0 n0 v U'.heap L ∧ FrameEnd U o U' L ({ frames := 0, cells := 0, slots := 0, locals := 0 } : Room).cells ({ frames := 0, cells := 0, slots := 0, locals := 0 } : Room).slots) := by
  refine MetFree.of_bodySF (plainFor_of_name pn_1) hisR ?_
  intro p e s m args below meth c s₁ Bd hml0 hP hK
  obtain ⟨rfl, hZ, hh⟩ := hP
  have hx := Bd.exec
  have hby := Bd.bytes
  have hml : c.maxLocals = 2 := hml0
  have hown : s.vm.findClass "com/example/bough3/bough3/model/SecurableType" = some m.cls := findClass_of_methodNamed Bd.named
  have hnm := (name_of_methodNamed Bd.named Bd.method).1
  have X0 : Stand p l e ({ frames := 0, cells := 0, slots := 0, locals := 0 } : Room) s m #[(.ref a1), (.ref b1)] below meth c s₁ [] 0 0 := Stand.of_body Bd
  have e0 : s₁.heap = h0 := by rw [← hh, Bd.state]; rfl
  have N0 := Fr.nil n0
  have pre0 : ∀ t, Steps p.tables e below (s₁.setTop (mkF m 0 #[.val (.ref a1), .val (.ref b1)] [])) t → Steps p.tables e below (s₁.setTop (entryFrame m #[(.ref a1), (.ref b1)] 2)) t := fun t k => castTop (ef_rm_n3 m a1 b1) k
  have S102 : ∀ t, Steps p.tables e below (s₁.setTop (mkF m 6 #[.val (.ref a1), .val (.ref b1)] [(.ref b1)])) t → Steps p.tables e below (s₁.setTop (mkF m 0 #[.val (.ref a1), .val (.ref b1)] [])) t := by
    intro t kt
    show Steps p.tables e below (s₁.setTop (mkF m 0 #[.val (.ref a1), .val (.ref b1)] [])) _
    refine XS.aloadN X0.here hx rfl (hb hby d2_0) rfl rfl ?_
    show Steps p.tables e below (s₁.setTop (mkF m 1 #[.val (.ref a1), .val (.ref b1)] [(.ref b1)])) _
    refine XS.aloadN X0.here hx rfl (hb hby d2_1) rfl rfl ?_
    show Steps p.tables e below (s₁.setTop (mkF m 2 #[.val (.ref a1), .val (.ref b1)] [(.ref a1), (.ref b1)])) _
    refine Jvm.RoadKit.acmp (g := (mkF m 2 #[.val (.ref a1), .val (.ref b1)] [(.ref a1), (.ref b1)])) X0 hx rfl rfl rfl (pc0 := 2) (pc' := 5) (same := false) rfl (hb hby d2_2) rfl (decide_eq_false fun q => ne_b1_a1 (Value.ref.inj q)) (by decide) (by decide) ?_
    show Steps p.tables e below (s₁.setTop (mkF m 5 #[.val (.ref a1), .val (.ref b1)] [])) _
    refine XS.aloadN X0.here hx rfl (hb hby d2_5) rfl rfl ?_
    exact kt
  obtain ⟨T103, X103, e103, st103⟩ := getF X0 hx hZ hown (host := "") (Or.inl (hw _ (List.mem_of_getElem? (i := 15) rfl))) Via.refl e0 F101 (g := (mkF m 6 #[.val (.ref a1), .val (.ref b1)] [(.ref b1)])) rfl rfl (hb hby d2_6)
  have S104 : ∀ t, Steps p.tables e below (T103.setTop (mkF m 18 #[.val (.ref a1), .val (.ref b1)] [(.int (0 : Int32))])) t → Steps p.tables e below (T103.setTop (mkF m 9 #[.val (.ref a1), .val (.ref b1)] [(.ref d1)])) t := by
    intro t kt
    show Steps p.tables e below (T103.setTop (mkF m 9 #[.val (.ref a1), .val (.ref b1)] [(.ref d1)])) _
    refine XS.aloadN X103.here hx rfl (hb hby d2_9) rfl rfl ?_
    show Steps p.tables e below (T103.setTop (mkF m 10 #[.val (.ref a1), .val (.ref b1)] [(.ref a1), (.ref d1)])) _
    refine Jvm.RoadKit.acmp (g := (mkF m 10 #[.val (.ref a1), .val (.ref b1)] [(.ref a1), (.ref d1)])) X103 hx rfl rfl rfl (pc0 := 10) (pc' := 17) (same := false) rfl (hb hby d2_10) rfl (decide_eq_false fun q => ne_d1_a1 (Value.ref.inj q)) (by decide) (by decide) ?_
    show Steps p.tables e below (T103.setTop (mkF m 17 #[.val (.ref a1), .val (.ref b1)] [])) _
    refine XS.iconst X103.here hx rfl (hb hby d2_17) ?_
    exact kt
  have C105 : ∀ t, Steps p.tables e below (T103.setTop (mkF m 18 #[.val (.ref a1), .val (.ref b1)] [(.int (0 : Int32))])) t → Steps p.tables e below (s₁.setTop (mkF m 0 #[.val (.ref a1), .val (.ref b1)] [])) t := (fun t k => (S102 t (st103 t (S104 t k))))
  obtain ⟨fs, hr, hrun, hended, hW, hsame⟩ := X103.leave (v := some (.int (0 : Int32))) (fun h => by rw [Bd.returns] at h; cases h)
  refine ⟨_, _, pre0 _ (C105 _ ?_), hrun, hended, _, _, rfl, ?_, ⟨_, rfl⟩, hW, hsame.mono (by decide) (by decide)⟩
  · exact retN X103 hx (t := .boolean) Bd.returns (by simp) (hb hby d2_18) hr
  · show Q_rm_n3 Z a1 b1 d1 h0 n0 _ T103.heap _
    rw [e103]
    exact ⟨rfl, N0, rfl⟩
theorem ef_rm0 (m : MethodId) (x0 : Int32) (x1 : Int32) : entryFrame m #[(.int x0), (.int x1)] maxLocals = mkF m 0 #[.val (.int x0), .val (.int x1), .unset, .unset, .unset, .unset, .unset] [] := by first | (simp [entryFrame, mkF, argsToLocals, Value.category, maxLocals]; done) | rfl
def Q_rm0 (Z : State) (A : Nat → Addr) (x1 : Int32) (y1 : Int32) (h0 : Heap) (n0 : Nat) (v : Option Value) (h : Heap) (L : List Loc) : Prop := v = some (.int 1) ∧ Fr n0 L
set_option maxRecDepth 65536 in
set_option maxHeartbeats 40000000 in
theorem rm0 (l : Launch) (Z : State) (a0 : Array Value) (hw : ∀ d ∈ tables_1, d.before a0 Z = true) (ws : List Jvm.Cond) (A : Nat → Addr) (x1 : Int32) (y1 : Int32) (h0 : Heap) (n0 : Nat) (Z0 : n0 ≤ h0.size) (H : own_en Z h0 A) :
    MetFree l x (head1 (Jvm.Cond.code x code maxLocals ret :: ws) room_1) (fun a U => a = #[(.int x1), (.int y1)] ∧ Z.Warmed39 U.vm ∧ U.heap = h0) (fun _ _ _ _ _ => True) (fun _ U o U' => ∃ v L, o = .returned v ∧ Q_rm0 Z A x1 y1 h0 n0 v U'.heap L ∧ FrameEnd U o U' L room_1.cells room_1.slots) := by
  refine MetFree.of_bodySF (plainFor_of_name pn_0) hisR ?_
  intro p e s m args below meth c s₁ Bd hml0 hP hK
  obtain ⟨rfl, hZ, hh⟩ := hP
  have hx := Bd.exec
  have hby := Bd.bytes
  have hml : c.maxLocals = 7 := hml0
  have hown : s.vm.findClass "com/example/bough3/bough3/model/SecurableTypeNamesPinLaw" = some m.cls := findClass_of_methodNamed Bd.named
  have hnm := (name_of_methodNamed Bd.named Bd.method).1
  have X0 : Stand p l e room_1 s m #[(.int x1), (.int y1)] below meth c s₁ [] 0 0 := Stand.of_body Bd
  have e0 : s₁.heap = h0 := by rw [← hh, Bd.state]; rfl
  have N0 := Fr.nil n0
  have pre0 : ∀ t, Steps p.tables e below (s₁.setTop (mkF m 0 #[.val (.int x1), .val (.int y1), .unset, .unset, .unset, .unset, .unset] [])) t → Steps p.tables e below (s₁.setTop (entryFrame m #[(.int x1), (.int y1)] maxLocals)) t := fun t k => castTop (ef_rm0 m x1 y1) k
  have S107 : ∀ t, Steps p.tables e below (s₁.setTop (mkF m 7 #[.val (.int x1), .val (.int y1), .unset, .unset, .unset, .unset, .unset] [(.int ((x1 &&& (2147483647 : Int32)) % (19 : Int32)))])) t → Steps p.tables e below (s₁.setTop (mkF m 0 #[.val (.int x1), .val (.int y1), .unset, .unset, .unset, .unset, .unset] [])) t := by
    intro t kt
    show Steps p.tables e below (s₁.setTop (mkF m 0 #[.val (.int x1), .val (.int y1), .unset, .unset, .unset, .unset, .unset] [])) _
    refine XS.iloadN X0.here hx rfl (hb hby at_0) rfl ?_
    show Steps p.tables e below (s₁.setTop (mkF m 1 #[.val (.int x1), .val (.int y1), .unset, .unset, .unset, .unset, .unset] [(.int x1)])) _
    refine X0.ldcInt hx hown (mvT hZ (hw _ (List.mem_of_getElem? (i := 0) rfl))) (g := (mkF m 1 #[.val (.int x1), .val (.int y1), .unset, .unset, .unset, .unset, .unset] [(.int x1)])) rfl (hb hby at_1) _ ?_
    show Steps p.tables e below (s₁.setTop (mkF m 3 #[.val (.int x1), .val (.int y1), .unset, .unset, .unset, .unset, .unset] [(.int (2147483647 : Int32)), (.int x1)])) _
    refine XS.iand X0.here hx rfl (hb hby at_3) rfl ?_
    show Steps p.tables e below (s₁.setTop (mkF m 4 #[.val (.int x1), .val (.int y1), .unset, .unset, .unset, .unset, .unset] [(.int (x1 &&& (2147483647 : Int32)))])) _
    refine XS.bipush X0.here hx rfl (hb hby at_4) ?_
    show Steps p.tables e below (s₁.setTop (mkF m 6 #[.val (.int x1), .val (.int y1), .unset, .unset, .unset, .unset, .unset] [(.int (19 : Int32)), (.int (x1 &&& (2147483647 : Int32)))])) _
    refine iremM X0 hx rfl (hb hby at_6) rfl (by decide) ?_
    exact kt
  obtain ⟨v106, hv106⟩ : ∃ z : Int32, z = ((x1 &&& (2147483647 : Int32)) % (19 : Int32)) := ⟨_, rfl⟩
  have S108 : ∀ t, Steps p.tables e below (s₁.setTop (mkF m 7 #[.val (.int x1), .val (.int y1), .unset, .unset, .unset, .unset, .unset] [(.int v106)])) t → Steps p.tables e below (s₁.setTop (mkF m 7 #[.val (.int x1), .val (.int y1), .unset, .unset, .unset, .unset, .unset] [(.int ((x1 &&& (2147483647 : Int32)) % (19 : Int32)))])) t := fun t k => by rw [hv106.symm]; exact k
  have S110 : ∀ t, Steps p.tables e below (s₁.setTop (mkF m 15 #[.val (.int x1), .val (.int y1), .val (.int v106), .unset, .unset, .unset, .unset] [(.int ((y1 &&& (2147483647 : Int32)) % (19 : Int32)))])) t → Steps p.tables e below (s₁.setTop (mkF m 7 #[.val (.int x1), .val (.int y1), .unset, .unset, .unset, .unset, .unset] [(.int v106)])) t := by
    intro t kt
    show Steps p.tables e below (s₁.setTop (mkF m 7 #[.val (.int x1), .val (.int y1), .unset, .unset, .unset, .unset, .unset] [(.int v106)])) _
    refine XS.istoreN X0.here hx rfl (hb hby at_7) rfl (l' := #[.val (.int x1), .val (.int y1), .val (.int v106), .unset, .unset, .unset, .unset]) rfl ?_
    show Steps p.tables e below (s₁.setTop (mkF m 8 #[.val (.int x1), .val (.int y1), .val (.int v106), .unset, .unset, .unset, .unset] [])) _
    refine XS.iloadN X0.here hx rfl (hb hby at_8) rfl ?_
    show Steps p.tables e below (s₁.setTop (mkF m 9 #[.val (.int x1), .val (.int y1), .val (.int v106), .unset, .unset, .unset, .unset] [(.int y1)])) _
    refine X0.ldcInt hx hown (mvT hZ (hw _ (List.mem_of_getElem? (i := 0) rfl))) (g := (mkF m 9 #[.val (.int x1), .val (.int y1), .val (.int v106), .unset, .unset, .unset, .unset] [(.int y1)])) rfl (hb hby at_9) _ ?_
    show Steps p.tables e below (s₁.setTop (mkF m 11 #[.val (.int x1), .val (.int y1), .val (.int v106), .unset, .unset, .unset, .unset] [(.int (2147483647 : Int32)), (.int y1)])) _
    refine XS.iand X0.here hx rfl (hb hby at_11) rfl ?_
    show Steps p.tables e below (s₁.setTop (mkF m 12 #[.val (.int x1), .val (.int y1), .val (.int v106), .unset, .unset, .unset, .unset] [(.int (y1 &&& (2147483647 : Int32)))])) _
    refine XS.bipush X0.here hx rfl (hb hby at_12) ?_
    show Steps p.tables e below (s₁.setTop (mkF m 14 #[.val (.int x1), .val (.int y1), .val (.int v106), .unset, .unset, .unset, .unset] [(.int (19 : Int32)), (.int (y1 &&& (2147483647 : Int32)))])) _
    refine iremM X0 hx rfl (hb hby at_14) rfl (by decide) ?_
    exact kt
  obtain ⟨v109, hv109⟩ : ∃ z : Int32, z = ((y1 &&& (2147483647 : Int32)) % (19 : Int32)) := ⟨_, rfl⟩
  have S111 : ∀ t, Steps p.tables e below (s₁.setTop (mkF m 15 #[.val (.int x1), .val (.int y1), .val (.int v106), .unset, .unset, .unset, .unset] [(.int v109)])) t → Steps p.tables e below (s₁.setTop (mkF m 15 #[.val (.int x1), .val (.int y1), .val (.int v106), .unset, .unset, .unset, .unset] [(.int ((y1 &&& (2147483647 : Int32)) % (19 : Int32)))])) t := fun t k => by rw [hv109.symm]; exact k
  obtain ⟨ka, hka⟩ := own_mod19 _ _ hv106
  obtain ⟨kb, hkb⟩ := own_mod19 _ _ hv109
  have S112 : ∀ t, Steps p.tables e below (s₁.setTop (mkF m 17 #[.val (.int x1), .val (.int y1), .val (.int v106), .val (.int v109), .unset, .unset, .unset] [(.int v106)])) t → Steps p.tables e below (s₁.setTop (mkF m 15 #[.val (.int x1), .val (.int y1), .val (.int v106), .unset, .unset, .unset, .unset] [(.int v109)])) t := by
    intro t kt
    show Steps p.tables e below (s₁.setTop (mkF m 15 #[.val (.int x1), .val (.int y1), .val (.int v106), .unset, .unset, .unset, .unset] [(.int v109)])) _
    refine XS.istoreN X0.here hx rfl (hb hby at_15) rfl (l' := #[.val (.int x1), .val (.int y1), .val (.int v106), .val (.int v109), .unset, .unset, .unset]) rfl ?_
    show Steps p.tables e below (s₁.setTop (mkF m 16 #[.val (.int x1), .val (.int y1), .val (.int v106), .val (.int v109), .unset, .unset, .unset] [])) _
    refine XS.iloadN X0.here hx rfl (hb hby at_16) rfl ?_
    exact kt
  obtain ⟨_, _, ⟨T113, L113, k113, n113⟩, -, X113, ⟨Lc113, hQ113, l113, y113, z113⟩, st113⟩ := Jvm.LawKit.callS X0 hx (y := (⟨"com/example/bough3/bough3/model/SecurableTypeNamesPinLaw", "type", "(I)Lcom/example/bough3/bough3/model/SecurableType;"⟩ : MethodName)) hown (mvT hZ (hw _ (List.mem_of_getElem? (i := 1) rfl))) (mvT hZ (hw _ (List.mem_of_getElem? (i := 2) rfl))) (mvT hZ (hw _ (List.mem_of_getElem? (i := 3) rfl))) (mvT hZ (hw _ (List.mem_of_getElem? (i := 4) rfl))) (by decide) (backOf (W := 0) (rm1 l Z a0 hw [] A v106 ka h0 n0 Z0 H hka) hZ (hw _ (List.mem_of_getElem? (i := 4) rfl)) (hw _ (List.mem_of_getElem? (i := 3) rfl)) (by decide) (by decide)) (g := (mkF m 17 #[.val (.int x1), .val (.int y1), .val (.int v106), .val (.int v109), .unset, .unset, .unset] [(.int v106)])) rfl (by rw [hml]; rfl) (argsL := [(.int v106)]) (rest := []) (lenOf pd_0 rfl) rfl (by show 2 * 0 + _ ≤ _; exact Nat.le_of_eq rfl) (hb hby at_17) (fun _ _ => ⟨rfl, e0, (by decide : 0 + 0 ≤ _), (by decide : 0 + 0 ≤ _)⟩)
  dsimp only [Pt.U, Pt.locs, Pt.cells, Pt.slots] at X113 l113 y113 z113 st113 hQ113
  subst l113 y113 z113
  obtain ⟨rfl, N113q, e113⟩ := hQ113
  have N113 := Fr.app N0 N113q
  have S114 : ∀ t, Steps p.tables e below (T113.setTop (mkF m 23 #[.val (.int x1), .val (.int y1), .val (.int v106), .val (.int v109), .val (.ref (A ka)), .unset, .unset] [(.int v109)])) t → Steps p.tables e below (T113.setTop (mkF m 20 #[.val (.int x1), .val (.int y1), .val (.int v106), .val (.int v109), .unset, .unset, .unset] [(.ref (A ka))])) t := by
    intro t kt
    show Steps p.tables e below (T113.setTop (mkF m 20 #[.val (.int x1), .val (.int y1), .val (.int v106), .val (.int v109), .unset, .unset, .unset] [(.ref (A ka))])) _
    refine XS.astore X113.here hx rfl (hb hby at_20) rfl rfl (l' := #[.val (.int x1), .val (.int y1), .val (.int v106), .val (.int v109), .val (.ref (A ka)), .unset, .unset]) rfl ?_
    show Steps p.tables e below (T113.setTop (mkF m 22 #[.val (.int x1), .val (.int y1), .val (.int v106), .val (.int v109), .val (.ref (A ka)), .unset, .unset] [])) _
    refine XS.iloadN X113.here hx rfl (hb hby at_22) rfl ?_
    exact kt
  obtain ⟨_, _, ⟨T115, L115, k115, n115⟩, -, X115, ⟨Lc115, hQ115, l115, y115, z115⟩, st115⟩ := Jvm.LawKit.callS X113 hx (y := (⟨"com/example/bough3/bough3/model/SecurableTypeNamesPinLaw", "type", "(I)Lcom/example/bough3/bough3/model/SecurableType;"⟩ : MethodName)) hown (mvT hZ (hw _ (List.mem_of_getElem? (i := 1) rfl))) (mvT hZ (hw _ (List.mem_of_getElem? (i := 2) rfl))) (mvT hZ (hw _ (List.mem_of_getElem? (i := 3) rfl))) (mvT hZ (hw _ (List.mem_of_getElem? (i := 4) rfl))) (by decide) (backOf (W := 0) (rm1 l Z a0 hw [] A v109 kb h0 n0 Z0 H hkb) hZ (hw _ (List.mem_of_getElem? (i := 4) rfl)) (hw _ (List.mem_of_getElem? (i := 3) rfl)) (by decide) (by decide)) (g := (mkF m 23 #[.val (.int x1), .val (.int y1), .val (.int v106), .val (.int v109), .val (.ref (A ka)), .unset, .unset] [(.int v109)])) rfl (by rw [hml]; rfl) (argsL := [(.int v109)]) (rest := []) (lenOf pd_0 rfl) rfl (by show 2 * 0 + _ ≤ _; exact Nat.le_of_eq rfl) (hb hby at_23) (fun _ _ => ⟨rfl, e113, (by decide : 0 + 0 ≤ _), (by decide : 0 + 0 ≤ _)⟩)
  dsimp only [Pt.U, Pt.locs, Pt.cells, Pt.slots] at X115 l115 y115 z115 st115 hQ115
  subst l115 y115 z115
  obtain ⟨rfl, N115q, e115⟩ := hQ115
  have N115 := Fr.app N113 N115q
  have S116 : ∀ t, Steps p.tables e below (T115.setTop (mkF m 30 #[.val (.int x1), .val (.int y1), .val (.int v106), .val (.int v109), .val (.ref (A ka)), .val (.ref (A kb)), .unset] [(.int v109), (.int v106)])) t → Steps p.tables e below (T115.setTop (mkF m 26 #[.val (.int x1), .val (.int y1), .val (.int v106), .val (.int v109), .val (.ref (A ka)), .unset, .unset] [(.ref (A kb))])) t := by
    intro t kt
    show Steps p.tables e below (T115.setTop (mkF m 26 #[.val (.int x1), .val (.int y1), .val (.int v106), .val (.int v109), .val (.ref (A ka)), .unset, .unset] [(.ref (A kb))])) _
    refine XS.astore X115.here hx rfl (hb hby at_26) rfl rfl (l' := #[.val (.int x1), .val (.int y1), .val (.int v106), .val (.int v109), .val (.ref (A ka)), .val (.ref (A kb)), .unset]) rfl ?_
    show Steps p.tables e below (T115.setTop (mkF m 28 #[.val (.int x1), .val (.int y1), .val (.int v106), .val (.int v109), .val (.ref (A ka)), .val (.ref (A kb)), .unset] [])) _
    refine XS.iloadN X115.here hx rfl (hb hby at_28) rfl ?_
    show Steps p.tables e below (T115.setTop (mkF m 29 #[.val (.int x1), .val (.int y1), .val (.int v106), .val (.int v109), .val (.ref (A ka)), .val (.ref (A kb)), .unset] [(.int v106)])) _
    refine XS.iloadN X115.here hx rfl (hb hby at_29) rfl ?_
    exact kt
  obtain ⟨v128, hv128⟩ : ∃ z : Int32, z = (if v106 = v109 then (1 : Int32) else (if v106 = (12 : Int32) then (if v109 = (13 : Int32) then (1 : Int32) else (if v109 = (14 : Int32) then (1 : Int32) else (if v106 = (16 : Int32) then (if v109 = (17 : Int32) then (1 : Int32) else (if v109 = (18 : Int32) then (1 : Int32) else (0 : Int32))) else (0 : Int32)))) else (if v106 = (16 : Int32) then (if v109 = (17 : Int32) then (1 : Int32) else (if v109 = (18 : Int32) then (1 : Int32) else (0 : Int32))) else (0 : Int32)))) := ⟨_, rfl⟩
  have S127 : ∀ t, Steps p.tables e below (T115.setTop (mkF m 74 #[.val (.int x1), .val (.int y1), .val (.int v106), .val (.int v109), .val (.ref (A ka)), .val (.ref (A kb)), .unset] [(.int v128)])) t → Steps p.tables e below (T115.setTop (mkF m 30 #[.val (.int x1), .val (.int y1), .val (.int v106), .val (.int v109), .val (.ref (A ka)), .val (.ref (A kb)), .unset] [(.int v109), (.int v106)])) t := by
    intro t kt
    subst hv128
    by_cases hc117 : v106 = v109
    · simp only [if_pos hc117] at kt
      show Steps p.tables e below (T115.setTop (mkF m 30 #[.val (.int x1), .val (.int y1), .val (.int v106), .val (.int v109), .val (.ref (A ka)), .val (.ref (A kb)), .unset] [(.int v109), (.int v106)])) _
      refine XS.icmpYes X115.here hx rfl (pc0 := 30) (pc' := 69) rfl (hb hby at_30) rfl (teq hc117).1 (by decide) (by decide) ?_
      show Steps p.tables e below (T115.setTop (mkF m 69 #[.val (.int x1), .val (.int y1), .val (.int v106), .val (.int v109), .val (.ref (A ka)), .val (.ref (A kb)), .unset] [])) _
      refine XS.iconst X115.here hx rfl (hb hby at_69) ?_
      show Steps p.tables e below (T115.setTop (mkF m 70 #[.val (.int x1), .val (.int y1), .val (.int v106), .val (.int v109), .val (.ref (A ka)), .val (.ref (A kb)), .unset] [(.int (1 : Int32))])) _
      refine XS.goto X115.here hx rfl (pc0 := 70) (pc' := 74) rfl (hb hby at_70) (by decide) (by decide) ?_
      exact kt
    · by_cases hc118 : v106 = (12 : Int32)
      · by_cases hc119 : v109 = (13 : Int32)
        · simp only [if_neg hc117, if_pos hc118, if_pos hc119] at kt
          show Steps p.tables e below (T115.setTop (mkF m 30 #[.val (.int x1), .val (.int y1), .val (.int v106), .val (.int v109), .val (.ref (A ka)), .val (.ref (A kb)), .unset] [(.int v109), (.int v106)])) _
          refine XS.icmpNo X115.here hx rfl (hb hby at_30) rfl (feq hc117).1 ?_
          show Steps p.tables e below (T115.setTop (mkF m 33 #[.val (.int x1), .val (.int y1), .val (.int v106), .val (.int v109), .val (.ref (A ka)), .val (.ref (A kb)), .unset] [])) _
          refine XS.iloadN X115.here hx rfl (hb hby at_33) rfl ?_
          show Steps p.tables e below (T115.setTop (mkF m 34 #[.val (.int x1), .val (.int y1), .val (.int v106), .val (.int v109), .val (.ref (A ka)), .val (.ref (A kb)), .unset] [(.int v106)])) _
          refine XS.bipush X115.here hx rfl (hb hby at_34) ?_
          show Steps p.tables e below (T115.setTop (mkF m 36 #[.val (.int x1), .val (.int y1), .val (.int v106), .val (.int v109), .val (.ref (A ka)), .val (.ref (A kb)), .unset] [(.int (12 : Int32)), (.int v106)])) _
          refine XS.icmpNo X115.here hx rfl (hb hby at_36) rfl (teq hc118).2 ?_
          show Steps p.tables e below (T115.setTop (mkF m 39 #[.val (.int x1), .val (.int y1), .val (.int v106), .val (.int v109), .val (.ref (A ka)), .val (.ref (A kb)), .unset] [])) _
          refine XS.iloadN X115.here hx rfl (hb hby at_39) rfl ?_
          show Steps p.tables e below (T115.setTop (mkF m 40 #[.val (.int x1), .val (.int y1), .val (.int v106), .val (.int v109), .val (.ref (A ka)), .val (.ref (A kb)), .unset] [(.int v109)])) _
          refine XS.bipush X115.here hx rfl (hb hby at_40) ?_
          show Steps p.tables e below (T115.setTop (mkF m 42 #[.val (.int x1), .val (.int y1), .val (.int v106), .val (.int v109), .val (.ref (A ka)), .val (.ref (A kb)), .unset] [(.int (13 : Int32)), (.int v109)])) _
          refine XS.icmpYes X115.here hx rfl (pc0 := 42) (pc' := 69) rfl (hb hby at_42) rfl (teq hc119).1 (by decide) (by decide) ?_
          show Steps p.tables e below (T115.setTop (mkF m 69 #[.val (.int x1), .val (.int y1), .val (.int v106), .val (.int v109), .val (.ref (A ka)), .val (.ref (A kb)), .unset] [])) _
          refine XS.iconst X115.here hx rfl (hb hby at_69) ?_
          show Steps p.tables e below (T115.setTop (mkF m 70 #[.val (.int x1), .val (.int y1), .val (.int v106), .val (.int v109), .val (.ref (A ka)), .val (.ref (A kb)), .unset] [(.int (1 : Int32))])) _
          refine XS.goto X115.here hx rfl (pc0 := 70) (pc' := 74) rfl (hb hby at_70) (by decide) (by decide) ?_
          exact kt
        · by_cases hc120 : v109 = (14 : Int32)
          · simp only [if_neg hc117, if_pos hc118, if_neg hc119, if_pos hc120] at kt
            show Steps p.tables e below (T115.setTop (mkF m 30 #[.val (.int x1), .val (.int y1), .val (.int v106), .val (.int v109), .val (.ref (A ka)), .val (.ref (A kb)), .unset] [(.int v109), (.int v106)])) _
            refine XS.icmpNo X115.here hx rfl (hb hby at_30) rfl (feq hc117).1 ?_
            show Steps p.tables e below (T115.setTop (mkF m 33 #[.val (.int x1), .val (.int y1), .val (.int v106), .val (.int v109), .val (.ref (A ka)), .val (.ref (A kb)), .unset] [])) _
            refine XS.iloadN X115.here hx rfl (hb hby at_33) rfl ?_
            show Steps p.tables e below (T115.setTop (mkF m 34 #[.val (.int x1), .val (.int y1), .val (.int v106), .val (.int v109), .val (.ref (A ka)), .val (.ref (A kb)), .unset] [(.int v106)])) _
            refine XS.bipush X115.here hx rfl (hb hby at_34) ?_
            show Steps p.tables e below (T115.setTop (mkF m 36 #[.val (.int x1), .val (.int y1), .val (.int v106), .val (.int v109), .val (.ref (A ka)), .val (.ref (A kb)), .unset] [(.int (12 : Int32)), (.int v106)])) _
            refine XS.icmpNo X115.here hx rfl (hb hby at_36) rfl (teq hc118).2 ?_
            show Steps p.tables e below (T115.setTop (mkF m 39 #[.val (.int x1), .val (.int y1), .val (.int v106), .val (.int v109), .val (.ref (A ka)), .val (.ref (A kb)), .unset] [])) _
            refine XS.iloadN X115.here hx rfl (hb hby at_39) rfl ?_
            show Steps p.tables e below (T115.setTop (mkF m 40 #[.val (.int x1), .val (.int y1), .val (.int v106), .val (.int v109), .val (.ref (A ka)), .val (.ref (A kb)), .unset] [(.int v109)])) _
            refine XS.bipush X115.here hx rfl (hb hby at_40) ?_
            show Steps p.tables e below (T115.setTop (mkF m 42 #[.val (.int x1), .val (.int y1), .val (.int v106), .val (.int v109), .val (.ref (A ka)), .val (.ref (A kb)), .unset] [(.int (13 : Int32)), (.int v109)])) _
            refine XS.icmpNo X115.here hx rfl (hb hby at_42) rfl (feq hc119).1 ?_
            show Steps p.tables e below (T115.setTop (mkF m 45 #[.val (.int x1), .val (.int y1), .val (.int v106), .val (.int v109), .val (.ref (A ka)), .val (.ref (A kb)), .unset] [])) _
            refine XS.iloadN X115.here hx rfl (hb hby at_45) rfl ?_
            show Steps p.tables e below (T115.setTop (mkF m 46 #[.val (.int x1), .val (.int y1), .val (.int v106), .val (.int v109), .val (.ref (A ka)), .val (.ref (A kb)), .unset] [(.int v109)])) _
            refine XS.bipush X115.here hx rfl (hb hby at_46) ?_
            show Steps p.tables e below (T115.setTop (mkF m 48 #[.val (.int x1), .val (.int y1), .val (.int v106), .val (.int v109), .val (.ref (A ka)), .val (.ref (A kb)), .unset] [(.int (14 : Int32)), (.int v109)])) _
            refine XS.icmpYes X115.here hx rfl (pc0 := 48) (pc' := 69) rfl (hb hby at_48) rfl (teq hc120).1 (by decide) (by decide) ?_
            show Steps p.tables e below (T115.setTop (mkF m 69 #[.val (.int x1), .val (.int y1), .val (.int v106), .val (.int v109), .val (.ref (A ka)), .val (.ref (A kb)), .unset] [])) _
            refine XS.iconst X115.here hx rfl (hb hby at_69) ?_
            show Steps p.tables e below (T115.setTop (mkF m 70 #[.val (.int x1), .val (.int y1), .val (.int v106), .val (.int v109), .val (.ref (A ka)), .val (.ref (A kb)), .unset] [(.int (1 : Int32))])) _
            refine XS.goto X115.here hx rfl (pc0 := 70) (pc' := 74) rfl (hb hby at_70) (by decide) (by decide) ?_
            exact kt
          · by_cases hc121 : v106 = (16 : Int32)
            · by_cases hc122 : v109 = (17 : Int32)
              · simp only [if_neg hc117, if_pos hc118, if_neg hc119, if_neg hc120, if_pos hc121, if_pos hc122] at kt
                show Steps p.tables e below (T115.setTop (mkF m 30 #[.val (.int x1), .val (.int y1), .val (.int v106), .val (.int v109), .val (.ref (A ka)), .val (.ref (A kb)), .unset] [(.int v109), (.int v106)])) _
                refine XS.icmpNo X115.here hx rfl (hb hby at_30) rfl (feq hc117).1 ?_
                show Steps p.tables e below (T115.setTop (mkF m 33 #[.val (.int x1), .val (.int y1), .val (.int v106), .val (.int v109), .val (.ref (A ka)), .val (.ref (A kb)), .unset] [])) _
                refine XS.iloadN X115.here hx rfl (hb hby at_33) rfl ?_
                show Steps p.tables e below (T115.setTop (mkF m 34 #[.val (.int x1), .val (.int y1), .val (.int v106), .val (.int v109), .val (.ref (A ka)), .val (.ref (A kb)), .unset] [(.int v106)])) _
                refine XS.bipush X115.here hx rfl (hb hby at_34) ?_
                show Steps p.tables e below (T115.setTop (mkF m 36 #[.val (.int x1), .val (.int y1), .val (.int v106), .val (.int v109), .val (.ref (A ka)), .val (.ref (A kb)), .unset] [(.int (12 : Int32)), (.int v106)])) _
                refine XS.icmpNo X115.here hx rfl (hb hby at_36) rfl (teq hc118).2 ?_
                show Steps p.tables e below (T115.setTop (mkF m 39 #[.val (.int x1), .val (.int y1), .val (.int v106), .val (.int v109), .val (.ref (A ka)), .val (.ref (A kb)), .unset] [])) _
                refine XS.iloadN X115.here hx rfl (hb hby at_39) rfl ?_
                show Steps p.tables e below (T115.setTop (mkF m 40 #[.val (.int x1), .val (.int y1), .val (.int v106), .val (.int v109), .val (.ref (A ka)), .val (.ref (A kb)), .unset] [(.int v109)])) _
                refine XS.bipush X115.here hx rfl (hb hby at_40) ?_
                show Steps p.tables e below (T115.setTop (mkF m 42 #[.val (.int x1), .val (.int y1), .val (.int v106), .val (.int v109), .val (.ref (A ka)), .val (.ref (A kb)), .unset] [(.int (13 : Int32)), (.int v109)])) _
                refine XS.icmpNo X115.here hx rfl (hb hby at_42) rfl (feq hc119).1 ?_
                show Steps p.tables e below (T115.setTop (mkF m 45 #[.val (.int x1), .val (.int y1), .val (.int v106), .val (.int v109), .val (.ref (A ka)), .val (.ref (A kb)), .unset] [])) _
                refine XS.iloadN X115.here hx rfl (hb hby at_45) rfl ?_
                show Steps p.tables e below (T115.setTop (mkF m 46 #[.val (.int x1), .val (.int y1), .val (.int v106), .val (.int v109), .val (.ref (A ka)), .val (.ref (A kb)), .unset] [(.int v109)])) _
                refine XS.bipush X115.here hx rfl (hb hby at_46) ?_
                show Steps p.tables e below (T115.setTop (mkF m 48 #[.val (.int x1), .val (.int y1), .val (.int v106), .val (.int v109), .val (.ref (A ka)), .val (.ref (A kb)), .unset] [(.int (14 : Int32)), (.int v109)])) _
                refine XS.icmpNo X115.here hx rfl (hb hby at_48) rfl (feq hc120).1 ?_
                show Steps p.tables e below (T115.setTop (mkF m 51 #[.val (.int x1), .val (.int y1), .val (.int v106), .val (.int v109), .val (.ref (A ka)), .val (.ref (A kb)), .unset] [])) _
                refine XS.iloadN X115.here hx rfl (hb hby at_51) rfl ?_
                show Steps p.tables e below (T115.setTop (mkF m 52 #[.val (.int x1), .val (.int y1), .val (.int v106), .val (.int v109), .val (.ref (A ka)), .val (.ref (A kb)), .unset] [(.int v106)])) _
                refine XS.bipush X115.here hx rfl (hb hby at_52) ?_
                show Steps p.tables e below (T115.setTop (mkF m 54 #[.val (.int x1), .val (.int y1), .val (.int v106), .val (.int v109), .val (.ref (A ka)), .val (.ref (A kb)), .unset] [(.int (16 : Int32)), (.int v106)])) _
                refine XS.icmpNo X115.here hx rfl (hb hby at_54) rfl (teq hc121).2 ?_
                show Steps p.tables e below (T115.setTop (mkF m 57 #[.val (.int x1), .val (.int y1), .val (.int v106), .val (.int v109), .val (.ref (A ka)), .val (.ref (A kb)), .unset] [])) _
                refine XS.iloadN X115.here hx rfl (hb hby at_57) rfl ?_
                show Steps p.tables e below (T115.setTop (mkF m 58 #[.val (.int x1), .val (.int y1), .val (.int v106), .val (.int v109), .val (.ref (A ka)), .val (.ref (A kb)), .unset] [(.int v109)])) _
                refine XS.bipush X115.here hx rfl (hb hby at_58) ?_
                show Steps p.tables e below (T115.setTop (mkF m 60 #[.val (.int x1), .val (.int y1), .val (.int v106), .val (.int v109), .val (.ref (A ka)), .val (.ref (A kb)), .unset] [(.int (17 : Int32)), (.int v109)])) _
                refine XS.icmpYes X115.here hx rfl (pc0 := 60) (pc' := 69) rfl (hb hby at_60) rfl (teq hc122).1 (by decide) (by decide) ?_
                show Steps p.tables e below (T115.setTop (mkF m 69 #[.val (.int x1), .val (.int y1), .val (.int v106), .val (.int v109), .val (.ref (A ka)), .val (.ref (A kb)), .unset] [])) _
                refine XS.iconst X115.here hx rfl (hb hby at_69) ?_
                show Steps p.tables e below (T115.setTop (mkF m 70 #[.val (.int x1), .val (.int y1), .val (.int v106), .val (.int v109), .val (.ref (A ka)), .val (.ref (A kb)), .unset] [(.int (1 : Int32))])) _
                refine XS.goto X115.here hx rfl (pc0 := 70) (pc' := 74) rfl (hb hby at_70) (by decide) (by decide) ?_
                exact kt
              · by_cases hc123 : v109 = (18 : Int32)
                · simp only [if_neg hc117, if_pos hc118, if_neg hc119, if_neg hc120, if_pos hc121, if_neg hc122, if_pos hc123] at kt
                  show Steps p.tables e below (T115.setTop (mkF m 30 #[.val (.int x1), .val (.int y1), .val (.int v106), .val (.int v109), .val (.ref (A ka)), .val (.ref (A kb)), .unset] [(.int v109), (.int v106)])) _
                  refine XS.icmpNo X115.here hx rfl (hb hby at_30) rfl (feq hc117).1 ?_
                  show Steps p.tables e below (T115.setTop (mkF m 33 #[.val (.int x1), .val (.int y1), .val (.int v106), .val (.int v109), .val (.ref (A ka)), .val (.ref (A kb)), .unset] [])) _
                  refine XS.iloadN X115.here hx rfl (hb hby at_33) rfl ?_
                  show Steps p.tables e below (T115.setTop (mkF m 34 #[.val (.int x1), .val (.int y1), .val (.int v106), .val (.int v109), .val (.ref (A ka)), .val (.ref (A kb)), .unset] [(.int v106)])) _
                  refine XS.bipush X115.here hx rfl (hb hby at_34) ?_
                  show Steps p.tables e below (T115.setTop (mkF m 36 #[.val (.int x1), .val (.int y1), .val (.int v106), .val (.int v109), .val (.ref (A ka)), .val (.ref (A kb)), .unset] [(.int (12 : Int32)), (.int v106)])) _
                  refine XS.icmpNo X115.here hx rfl (hb hby at_36) rfl (teq hc118).2 ?_
                  show Steps p.tables e below (T115.setTop (mkF m 39 #[.val (.int x1), .val (.int y1), .val (.int v106), .val (.int v109), .val (.ref (A ka)), .val (.ref (A kb)), .unset] [])) _
                  refine XS.iloadN X115.here hx rfl (hb hby at_39) rfl ?_
                  show Steps p.tables e below (T115.setTop (mkF m 40 #[.val (.int x1), .val (.int y1), .val (.int v106), .val (.int v109), .val (.ref (A ka)), .val (.ref (A kb)), .unset] [(.int v109)])) _
                  refine XS.bipush X115.here hx rfl (hb hby at_40) ?_
                  show Steps p.tables e below (T115.setTop (mkF m 42 #[.val (.int x1), .val (.int y1), .val (.int v106), .val (.int v109), .val (.ref (A ka)), .val (.ref (A kb)), .unset] [(.int (13 : Int32)), (.int v109)])) _
                  refine XS.icmpNo X115.here hx rfl (hb hby at_42) rfl (feq hc119).1 ?_
                  show Steps p.tables e below (T115.setTop (mkF m 45 #[.val (.int x1), .val (.int y1), .val (.int v106), .val (.int v109), .val (.ref (A ka)), .val (.ref (A kb)), .unset] [])) _
                  refine XS.iloadN X115.here hx rfl (hb hby at_45) rfl ?_
                  show Steps p.tables e below (T115.setTop (mkF m 46 #[.val (.int x1), .val (.int y1), .val (.int v106), .val (.int v109), .val (.ref (A ka)), .val (.ref (A kb)), .unset] [(.int v109)])) _
                  refine XS.bipush X115.here hx rfl (hb hby at_46) ?_
                  show Steps p.tables e below (T115.setTop (mkF m 48 #[.val (.int x1), .val (.int y1), .val (.int v106), .val (.int v109), .val (.ref (A ka)), .val (.ref (A kb)), .unset] [(.int (14 : Int32)), (.int v109)])) _
                  refine XS.icmpNo X115.here hx rfl (hb hby at_48) rfl (feq hc120).1 ?_
                  show Steps p.tables e below (T115.setTop (mkF m 51 #[.val (.int x1), .val (.int y1), .val (.int v106), .val (.int v109), .val (.ref (A ka)), .val (.ref (A kb)), .unset] [])) _
                  refine XS.iloadN X115.here hx rfl (hb hby at_51) rfl ?_
                  show Steps p.tables e below (T115.setTop (mkF m 52 #[.val (.int x1), .val (.int y1), .val (.int v106), .val (.int v109), .val (.ref (A ka)), .val (.ref (A kb)), .unset] [(.int v106)])) _
                  refine XS.bipush X115.here hx rfl (hb hby at_52) ?_
                  show Steps p.tables e below (T115.setTop (mkF m 54 #[.val (.int x1), .val (.int y1), .val (.int v106), .val (.int v109), .val (.ref (A ka)), .val (.ref (A kb)), .unset] [(.int (16 : Int32)), (.int v106)])) _
                  refine XS.icmpNo X115.here hx rfl (hb hby at_54) rfl (teq hc121).2 ?_
                  show Steps p.tables e below (T115.setTop (mkF m 57 #[.val (.int x1), .val (.int y1), .val (.int v106), .val (.int v109), .val (.ref (A ka)), .val (.ref (A kb)), .unset] [])) _
                  refine XS.iloadN X115.here hx rfl (hb hby at_57) rfl ?_
                  show Steps p.tables e below (T115.setTop (mkF m 58 #[.val (.int x1), .val (.int y1), .val (.int v106), .val (.int v109), .val (.ref (A ka)), .val (.ref (A kb)), .unset] [(.int v109)])) _
                  refine XS.bipush X115.here hx rfl (hb hby at_58) ?_
                  show Steps p.tables e below (T115.setTop (mkF m 60 #[.val (.int x1), .val (.int y1), .val (.int v106), .val (.int v109), .val (.ref (A ka)), .val (.ref (A kb)), .unset] [(.int (17 : Int32)), (.int v109)])) _
                  refine XS.icmpNo X115.here hx rfl (hb hby at_60) rfl (feq hc122).1 ?_
                  show Steps p.tables e below (T115.setTop (mkF m 63 #[.val (.int x1), .val (.int y1), .val (.int v106), .val (.int v109), .val (.ref (A ka)), .val (.ref (A kb)), .unset] [])) _
                  refine XS.iloadN X115.here hx rfl (hb hby at_63) rfl ?_
                  show Steps p.tables e below (T115.setTop (mkF m 64 #[.val (.int x1), .val (.int y1), .val (.int v106), .val (.int v109), .val (.ref (A ka)), .val (.ref (A kb)), .unset] [(.int v109)])) _
                  refine XS.bipush X115.here hx rfl (hb hby at_64) ?_
                  show Steps p.tables e below (T115.setTop (mkF m 66 #[.val (.int x1), .val (.int y1), .val (.int v106), .val (.int v109), .val (.ref (A ka)), .val (.ref (A kb)), .unset] [(.int (18 : Int32)), (.int v109)])) _
                  refine XS.icmpNo X115.here hx rfl (hb hby at_66) rfl (teq hc123).2 ?_
                  show Steps p.tables e below (T115.setTop (mkF m 69 #[.val (.int x1), .val (.int y1), .val (.int v106), .val (.int v109), .val (.ref (A ka)), .val (.ref (A kb)), .unset] [])) _
                  refine XS.iconst X115.here hx rfl (hb hby at_69) ?_
                  show Steps p.tables e below (T115.setTop (mkF m 70 #[.val (.int x1), .val (.int y1), .val (.int v106), .val (.int v109), .val (.ref (A ka)), .val (.ref (A kb)), .unset] [(.int (1 : Int32))])) _
                  refine XS.goto X115.here hx rfl (pc0 := 70) (pc' := 74) rfl (hb hby at_70) (by decide) (by decide) ?_
                  exact kt
                · simp only [if_neg hc117, if_pos hc118, if_neg hc119, if_neg hc120, if_pos hc121, if_neg hc122, if_neg hc123] at kt
                  show Steps p.tables e below (T115.setTop (mkF m 30 #[.val (.int x1), .val (.int y1), .val (.int v106), .val (.int v109), .val (.ref (A ka)), .val (.ref (A kb)), .unset] [(.int v109), (.int v106)])) _
                  refine XS.icmpNo X115.here hx rfl (hb hby at_30) rfl (feq hc117).1 ?_
                  show Steps p.tables e below (T115.setTop (mkF m 33 #[.val (.int x1), .val (.int y1), .val (.int v106), .val (.int v109), .val (.ref (A ka)), .val (.ref (A kb)), .unset] [])) _
                  refine XS.iloadN X115.here hx rfl (hb hby at_33) rfl ?_
                  show Steps p.tables e below (T115.setTop (mkF m 34 #[.val (.int x1), .val (.int y1), .val (.int v106), .val (.int v109), .val (.ref (A ka)), .val (.ref (A kb)), .unset] [(.int v106)])) _
                  refine XS.bipush X115.here hx rfl (hb hby at_34) ?_
                  show Steps p.tables e below (T115.setTop (mkF m 36 #[.val (.int x1), .val (.int y1), .val (.int v106), .val (.int v109), .val (.ref (A ka)), .val (.ref (A kb)), .unset] [(.int (12 : Int32)), (.int v106)])) _
                  refine XS.icmpNo X115.here hx rfl (hb hby at_36) rfl (teq hc118).2 ?_
                  show Steps p.tables e below (T115.setTop (mkF m 39 #[.val (.int x1), .val (.int y1), .val (.int v106), .val (.int v109), .val (.ref (A ka)), .val (.ref (A kb)), .unset] [])) _
                  refine XS.iloadN X115.here hx rfl (hb hby at_39) rfl ?_
                  show Steps p.tables e below (T115.setTop (mkF m 40 #[.val (.int x1), .val (.int y1), .val (.int v106), .val (.int v109), .val (.ref (A ka)), .val (.ref (A kb)), .unset] [(.int v109)])) _
                  refine XS.bipush X115.here hx rfl (hb hby at_40) ?_
                  show Steps p.tables e below (T115.setTop (mkF m 42 #[.val (.int x1), .val (.int y1), .val (.int v106), .val (.int v109), .val (.ref (A ka)), .val (.ref (A kb)), .unset] [(.int (13 : Int32)), (.int v109)])) _
                  refine XS.icmpNo X115.here hx rfl (hb hby at_42) rfl (feq hc119).1 ?_
                  show Steps p.tables e below (T115.setTop (mkF m 45 #[.val (.int x1), .val (.int y1), .val (.int v106), .val (.int v109), .val (.ref (A ka)), .val (.ref (A kb)), .unset] [])) _
                  refine XS.iloadN X115.here hx rfl (hb hby at_45) rfl ?_
                  show Steps p.tables e below (T115.setTop (mkF m 46 #[.val (.int x1), .val (.int y1), .val (.int v106), .val (.int v109), .val (.ref (A ka)), .val (.ref (A kb)), .unset] [(.int v109)])) _
                  refine XS.bipush X115.here hx rfl (hb hby at_46) ?_
                  show Steps p.tables e below (T115.setTop (mkF m 48 #[.val (.int x1), .val (.int y1), .val (.int v106), .val (.int v109), .val (.ref (A ka)), .val (.ref (A kb)), .unset] [(.int (14 : Int32)), (.int v109)])) _
                  refine XS.icmpNo X115.here hx rfl (hb hby at_48) rfl (feq hc120).1 ?_
                  show Steps p.tables e below (T115.setTop (mkF m 51 #[.val (.int x1), .val (.int y1), .val (.int v106), .val (.int v109), .val (.ref (A ka)), .val (.ref (A kb)), .unset] [])) _
                  refine XS.iloadN X115.here hx rfl (hb hby at_51) rfl ?_
                  show Steps p.tables e below (T115.setTop (mkF m 52 #[.val (.int x1), .val (.int y1), .val (.int v106), .val (.int v109), .val (.ref (A ka)), .val (.ref (A kb)), .unset] [(.int v106)])) _
                  refine XS.bipush X115.here hx rfl (hb hby at_52) ?_
                  show Steps p.tables e below (T115.setTop (mkF m 54 #[.val (.int x1), .val (.int y1), .val (.int v106), .val (.int v109), .val (.ref (A ka)), .val (.ref (A kb)), .unset] [(.int (16 : Int32)), (.int v106)])) _
                  refine XS.icmpNo X115.here hx rfl (hb hby at_54) rfl (teq hc121).2 ?_
                  show Steps p.tables e below (T115.setTop (mkF m 57 #[.val (.int x1), .val (.int y1), .val (.int v106), .val (.int v109), .val (.ref (A ka)), .val (.ref (A kb)), .unset] [])) _
                  refine XS.iloadN X115.here hx rfl (hb hby at_57) rfl ?_
                  show Steps p.tables e below (T115.setTop (mkF m 58 #[.val (.int x1), .val (.int y1), .val (.int v106), .val (.int v109), .val (.ref (A ka)), .val (.ref (A kb)), .unset] [(.int v109)])) _
                  refine XS.bipush X115.here hx rfl (hb hby at_58) ?_
                  show Steps p.tables e below (T115.setTop (mkF m 60 #[.val (.int x1), .val (.int y1), .val (.int v106), .val (.int v109), .val (.ref (A ka)), .val (.ref (A kb)), .unset] [(.int (17 : Int32)), (.int v109)])) _
                  refine XS.icmpNo X115.here hx rfl (hb hby at_60) rfl (feq hc122).1 ?_
                  show Steps p.tables e below (T115.setTop (mkF m 63 #[.val (.int x1), .val (.int y1), .val (.int v106), .val (.int v109), .val (.ref (A ka)), .val (.ref (A kb)), .unset] [])) _
                  refine XS.iloadN X115.here hx rfl (hb hby at_63) rfl ?_
                  show Steps p.tables e below (T115.setTop (mkF m 64 #[.val (.int x1), .val (.int y1), .val (.int v106), .val (.int v109), .val (.ref (A ka)), .val (.ref (A kb)), .unset] [(.int v109)])) _
                  refine XS.bipush X115.here hx rfl (hb hby at_64) ?_
                  show Steps p.tables e below (T115.setTop (mkF m 66 #[.val (.int x1), .val (.int y1), .val (.int v106), .val (.int v109), .val (.ref (A ka)), .val (.ref (A kb)), .unset] [(.int (18 : Int32)), (.int v109)])) _
                  refine XS.icmpYes X115.here hx rfl (pc0 := 66) (pc' := 73) rfl (hb hby at_66) rfl (feq hc123).2 (by decide) (by decide) ?_
                  show Steps p.tables e below (T115.setTop (mkF m 73 #[.val (.int x1), .val (.int y1), .val (.int v106), .val (.int v109), .val (.ref (A ka)), .val (.ref (A kb)), .unset] [])) _
                  refine XS.iconst X115.here hx rfl (hb hby at_73) ?_
                  exact kt
            · simp only [if_neg hc117, if_pos hc118, if_neg hc119, if_neg hc120, if_neg hc121] at kt
              show Steps p.tables e below (T115.setTop (mkF m 30 #[.val (.int x1), .val (.int y1), .val (.int v106), .val (.int v109), .val (.ref (A ka)), .val (.ref (A kb)), .unset] [(.int v109), (.int v106)])) _
              refine XS.icmpNo X115.here hx rfl (hb hby at_30) rfl (feq hc117).1 ?_
              show Steps p.tables e below (T115.setTop (mkF m 33 #[.val (.int x1), .val (.int y1), .val (.int v106), .val (.int v109), .val (.ref (A ka)), .val (.ref (A kb)), .unset] [])) _
              refine XS.iloadN X115.here hx rfl (hb hby at_33) rfl ?_
              show Steps p.tables e below (T115.setTop (mkF m 34 #[.val (.int x1), .val (.int y1), .val (.int v106), .val (.int v109), .val (.ref (A ka)), .val (.ref (A kb)), .unset] [(.int v106)])) _
              refine XS.bipush X115.here hx rfl (hb hby at_34) ?_
              show Steps p.tables e below (T115.setTop (mkF m 36 #[.val (.int x1), .val (.int y1), .val (.int v106), .val (.int v109), .val (.ref (A ka)), .val (.ref (A kb)), .unset] [(.int (12 : Int32)), (.int v106)])) _
              refine XS.icmpNo X115.here hx rfl (hb hby at_36) rfl (teq hc118).2 ?_
              show Steps p.tables e below (T115.setTop (mkF m 39 #[.val (.int x1), .val (.int y1), .val (.int v106), .val (.int v109), .val (.ref (A ka)), .val (.ref (A kb)), .unset] [])) _
              refine XS.iloadN X115.here hx rfl (hb hby at_39) rfl ?_
              show Steps p.tables e below (T115.setTop (mkF m 40 #[.val (.int x1), .val (.int y1), .val (.int v106), .val (.int v109), .val (.ref (A ka)), .val (.ref (A kb)), .unset] [(.int v109)])) _
              refine XS.bipush X115.here hx rfl (hb hby at_40) ?_
              show Steps p.tables e below (T115.setTop (mkF m 42 #[.val (.int x1), .val (.int y1), .val (.int v106), .val (.int v109), .val (.ref (A ka)), .val (.ref (A kb)), .unset] [(.int (13 : Int32)), (.int v109)])) _
              refine XS.icmpNo X115.here hx rfl (hb hby at_42) rfl (feq hc119).1 ?_
              show Steps p.tables e below (T115.setTop (mkF m 45 #[.val (.int x1), .val (.int y1), .val (.int v106), .val (.int v109), .val (.ref (A ka)), .val (.ref (A kb)), .unset] [])) _
              refine XS.iloadN X115.here hx rfl (hb hby at_45) rfl ?_
              show Steps p.tables e below (T115.setTop (mkF m 46 #[.val (.int x1), .val (.int y1), .val (.int v106), .val (.int v109), .val (.ref (A ka)), .val (.ref (A kb)), .unset] [(.int v109)])) _
              refine XS.bipush X115.here hx rfl (hb hby at_46) ?_
              show Steps p.tables e below (T115.setTop (mkF m 48 #[.val (.int x1), .val (.int y1), .val (.int v106), .val (.int v109), .val (.ref (A ka)), .val (.ref (A kb)), .unset] [(.int (14 : Int32)), (.int v109)])) _
              refine XS.icmpNo X115.here hx rfl (hb hby at_48) rfl (feq hc120).1 ?_
              show Steps p.tables e below (T115.setTop (mkF m 51 #[.val (.int x1), .val (.int y1), .val (.int v106), .val (.int v109), .val (.ref (A ka)), .val (.ref (A kb)), .unset] [])) _
              refine XS.iloadN X115.here hx rfl (hb hby at_51) rfl ?_
              show Steps p.tables e below (T115.setTop (mkF m 52 #[.val (.int x1), .val (.int y1), .val (.int v106), .val (.int v109), .val (.ref (A ka)), .val (.ref (A kb)), .unset] [(.int v106)])) _
              refine XS.bipush X115.here hx rfl (hb hby at_52) ?_
              show Steps p.tables e below (T115.setTop (mkF m 54 #[.val (.int x1), .val (.int y1), .val (.int v106), .val (.int v109), .val (.ref (A ka)), .val (.ref (A kb)), .unset] [(.int (16 : Int32)), (.int v106)])) _
              refine XS.icmpYes X115.here hx rfl (pc0 := 54) (pc' := 73) rfl (hb hby at_54) rfl (feq hc121).2 (by decide) (by decide) ?_
              show Steps p.tables e below (T115.setTop (mkF m 73 #[.val (.int x1), .val (.int y1), .val (.int v106), .val (.int v109), .val (.ref (A ka)), .val (.ref (A kb)), .unset] [])) _
              refine XS.iconst X115.here hx rfl (hb hby at_73) ?_
              exact kt
      · by_cases hc124 : v106 = (16 : Int32)
        · by_cases hc125 : v109 = (17 : Int32)
          · simp only [if_neg hc117, if_neg hc118, if_pos hc124, if_pos hc125] at kt
            show Steps p.tables e below (T115.setTop (mkF m 30 #[.val (.int x1), .val (.int y1), .val (.int v106), .val (.int v109), .val (.ref (A ka)), .val (.ref (A kb)), .unset] [(.int v109), (.int v106)])) _
            refine XS.icmpNo X115.here hx rfl (hb hby at_30) rfl (feq hc117).1 ?_
            show Steps p.tables e below (T115.setTop (mkF m 33 #[.val (.int x1), .val (.int y1), .val (.int v106), .val (.int v109), .val (.ref (A ka)), .val (.ref (A kb)), .unset] [])) _
            refine XS.iloadN X115.here hx rfl (hb hby at_33) rfl ?_
            show Steps p.tables e below (T115.setTop (mkF m 34 #[.val (.int x1), .val (.int y1), .val (.int v106), .val (.int v109), .val (.ref (A ka)), .val (.ref (A kb)), .unset] [(.int v106)])) _
            refine XS.bipush X115.here hx rfl (hb hby at_34) ?_
            show Steps p.tables e below (T115.setTop (mkF m 36 #[.val (.int x1), .val (.int y1), .val (.int v106), .val (.int v109), .val (.ref (A ka)), .val (.ref (A kb)), .unset] [(.int (12 : Int32)), (.int v106)])) _
            refine XS.icmpYes X115.here hx rfl (pc0 := 36) (pc' := 51) rfl (hb hby at_36) rfl (feq hc118).2 (by decide) (by decide) ?_
            show Steps p.tables e below (T115.setTop (mkF m 51 #[.val (.int x1), .val (.int y1), .val (.int v106), .val (.int v109), .val (.ref (A ka)), .val (.ref (A kb)), .unset] [])) _
            refine XS.iloadN X115.here hx rfl (hb hby at_51) rfl ?_
            show Steps p.tables e below (T115.setTop (mkF m 52 #[.val (.int x1), .val (.int y1), .val (.int v106), .val (.int v109), .val (.ref (A ka)), .val (.ref (A kb)), .unset] [(.int v106)])) _
            refine XS.bipush X115.here hx rfl (hb hby at_52) ?_
            show Steps p.tables e below (T115.setTop (mkF m 54 #[.val (.int x1), .val (.int y1), .val (.int v106), .val (.int v109), .val (.ref (A ka)), .val (.ref (A kb)), .unset] [(.int (16 : Int32)), (.int v106)])) _
            refine XS.icmpNo X115.here hx rfl (hb hby at_54) rfl (teq hc124).2 ?_
            show Steps p.tables e below (T115.setTop (mkF m 57 #[.val (.int x1), .val (.int y1), .val (.int v106), .val (.int v109), .val (.ref (A ka)), .val (.ref (A kb)), .unset] [])) _
            refine XS.iloadN X115.here hx rfl (hb hby at_57) rfl ?_
            show Steps p.tables e below (T115.setTop (mkF m 58 #[.val (.int x1), .val (.int y1), .val (.int v106), .val (.int v109), .val (.ref (A ka)), .val (.ref (A kb)), .unset] [(.int v109)])) _
            refine XS.bipush X115.here hx rfl (hb hby at_58) ?_
            show Steps p.tables e below (T115.setTop (mkF m 60 #[.val (.int x1), .val (.int y1), .val (.int v106), .val (.int v109), .val (.ref (A ka)), .val (.ref (A kb)), .unset] [(.int (17 : Int32)), (.int v109)])) _
            refine XS.icmpYes X115.here hx rfl (pc0 := 60) (pc' := 69) rfl (hb hby at_60) rfl (teq hc125).1 (by decide) (by decide) ?_
            show Steps p.tables e below (T115.setTop (mkF m 69 #[.val (.int x1), .val (.int y1), .val (.int v106), .val (.int v109), .val (.ref (A ka)), .val (.ref (A kb)), .unset] [])) _
            refine XS.iconst X115.here hx rfl (hb hby at_69) ?_
            show Steps p.tables e below (T115.setTop (mkF m 70 #[.val (.int x1), .val (.int y1), .val (.int v106), .val (.int v109), .val (.ref (A ka)), .val (.ref (A kb)), .unset] [(.int (1 : Int32))])) _
            refine XS.goto X115.here hx rfl (pc0 := 70) (pc' := 74) rfl (hb hby at_70) (by decide) (by decide) ?_
            exact kt
          · by_cases hc126 : v109 = (18 : Int32)
            · simp only [if_neg hc117, if_neg hc118, if_pos hc124, if_neg hc125, if_pos hc126] at kt
              show Steps p.tables e below (T115.setTop (mkF m 30 #[.val (.int x1), .val (.int y1), .val (.int v106), .val (.int v109), .val (.ref (A ka)), .val (.ref (A kb)), .unset] [(.int v109), (.int v106)])) _
              refine XS.icmpNo X115.here hx rfl (hb hby at_30) rfl (feq hc117).1 ?_
              show Steps p.tables e below (T115.setTop (mkF m 33 #[.val (.int x1), .val (.int y1), .val (.int v106), .val (.int v109), .val (.ref (A ka)), .val (.ref (A kb)), .unset] [])) _
              refine XS.iloadN X115.here hx rfl (hb hby at_33) rfl ?_
              show Steps p.tables e below (T115.setTop (mkF m 34 #[.val (.int x1), .val (.int y1), .val (.int v106), .val (.int v109), .val (.ref (A ka)), .val (.ref (A kb)), .unset] [(.int v106)])) _
              refine XS.bipush X115.here hx rfl (hb hby at_34) ?_
              show Steps p.tables e below (T115.setTop (mkF m 36 #[.val (.int x1), .val (.int y1), .val (.int v106), .val (.int v109), .val (.ref (A ka)), .val (.ref (A kb)), .unset] [(.int (12 : Int32)), (.int v106)])) _
              refine XS.icmpYes X115.here hx rfl (pc0 := 36) (pc' := 51) rfl (hb hby at_36) rfl (feq hc118).2 (by decide) (by decide) ?_
              show Steps p.tables e below (T115.setTop (mkF m 51 #[.val (.int x1), .val (.int y1), .val (.int v106), .val (.int v109), .val (.ref (A ka)), .val (.ref (A kb)), .unset] [])) _
              refine XS.iloadN X115.here hx rfl (hb hby at_51) rfl ?_
              show Steps p.tables e below (T115.setTop (mkF m 52 #[.val (.int x1), .val (.int y1), .val (.int v106), .val (.int v109), .val (.ref (A ka)), .val (.ref (A kb)), .unset] [(.int v106)])) _
              refine XS.bipush X115.here hx rfl (hb hby at_52) ?_
              show Steps p.tables e below (T115.setTop (mkF m 54 #[.val (.int x1), .val (.int y1), .val (.int v106), .val (.int v109), .val (.ref (A ka)), .val (.ref (A kb)), .unset] [(.int (16 : Int32)), (.int v106)])) _
              refine XS.icmpNo X115.here hx rfl (hb hby at_54) rfl (teq hc124).2 ?_
              show Steps p.tables e below (T115.setTop (mkF m 57 #[.val (.int x1), .val (.int y1), .val (.int v106), .val (.int v109), .val (.ref (A ka)), .val (.ref (A kb)), .unset] [])) _
              refine XS.iloadN X115.here hx rfl (hb hby at_57) rfl ?_
              show Steps p.tables e below (T115.setTop (mkF m 58 #[.val (.int x1), .val (.int y1), .val (.int v106), .val (.int v109), .val (.ref (A ka)), .val (.ref (A kb)), .unset] [(.int v109)])) _
              refine XS.bipush X115.here hx rfl (hb hby at_58) ?_
              show Steps p.tables e below (T115.setTop (mkF m 60 #[.val (.int x1), .val (.int y1), .val (.int v106), .val (.int v109), .val (.ref (A ka)), .val (.ref (A kb)), .unset] [(.int (17 : Int32)), (.int v109)])) _
              refine XS.icmpNo X115.here hx rfl (hb hby at_60) rfl (feq hc125).1 ?_
              show Steps p.tables e below (T115.setTop (mkF m 63 #[.val (.int x1), .val (.int y1), .val (.int v106), .val (.int v109), .val (.ref (A ka)), .val (.ref (A kb)), .unset] [])) _
              refine XS.iloadN X115.here hx rfl (hb hby at_63) rfl ?_
              show Steps p.tables e below (T115.setTop (mkF m 64 #[.val (.int x1), .val (.int y1), .val (.int v106), .val (.int v109), .val (.ref (A ka)), .val (.ref (A kb)), .unset] [(.int v109)])) _
              refine XS.bipush X115.here hx rfl (hb hby at_64) ?_
              show Steps p.tables e below (T115.setTop (mkF m 66 #[.val (.int x1), .val (.int y1), .val (.int v106), .val (.int v109), .val (.ref (A ka)), .val (.ref (A kb)), .unset] [(.int (18 : Int32)), (.int v109)])) _
              refine XS.icmpNo X115.here hx rfl (hb hby at_66) rfl (teq hc126).2 ?_
              show Steps p.tables e below (T115.setTop (mkF m 69 #[.val (.int x1), .val (.int y1), .val (.int v106), .val (.int v109), .val (.ref (A ka)), .val (.ref (A kb)), .unset] [])) _
              refine XS.iconst X115.here hx rfl (hb hby at_69) ?_
              show Steps p.tables e below (T115.setTop (mkF m 70 #[.val (.int x1), .val (.int y1), .val (.int v106), .val (.int v109), .val (.ref (A ka)), .val (.ref (A kb)), .unset] [(.int (1 : Int32))])) _
              refine XS.goto X115.here hx rfl (pc0 := 70) (pc' := 74) rfl (hb hby at_70) (by decide) (by decide) ?_
              exact kt
            · simp only [if_neg hc117, if_neg hc118, if_pos hc124, if_neg hc125, if_neg hc126] at kt
              show Steps p.tables e below (T115.setTop (mkF m 30 #[.val (.int x1), .val (.int y1), .val (.int v106), .val (.int v109), .val (.ref (A ka)), .val (.ref (A kb)), .unset] [(.int v109), (.int v106)])) _
              refine XS.icmpNo X115.here hx rfl (hb hby at_30) rfl (feq hc117).1 ?_
              show Steps p.tables e below (T115.setTop (mkF m 33 #[.val (.int x1), .val (.int y1), .val (.int v106), .val (.int v109), .val (.ref (A ka)), .val (.ref (A kb)), .unset] [])) _
              refine XS.iloadN X115.here hx rfl (hb hby at_33) rfl ?_
              show Steps p.tables e below (T115.setTop (mkF m 34 #[.val (.int x1), .val (.int y1), .val (.int v106), .val (.int v109), .val (.ref (A ka)), .val (.ref (A kb)), .unset] [(.int v106)])) _
              refine XS.bipush X115.here hx rfl (hb hby at_34) ?_
              show Steps p.tables e below (T115.setTop (mkF m 36 #[.val (.int x1), .val (.int y1), .val (.int v106), .val (.int v109), .val (.ref (A ka)), .val (.ref (A kb)), .unset] [(.int (12 : Int32)), (.int v106)])) _
              refine XS.icmpYes X115.here hx rfl (pc0 := 36) (pc' := 51) rfl (hb hby at_36) rfl (feq hc118).2 (by decide) (by decide) ?_
              show Steps p.tables e below (T115.setTop (mkF m 51 #[.val (.int x1), .val (.int y1), .val (.int v106), .val (.int v109), .val (.ref (A ka)), .val (.ref (A kb)), .unset] [])) _
              refine XS.iloadN X115.here hx rfl (hb hby at_51) rfl ?_
              show Steps p.tables e below (T115.setTop (mkF m 52 #[.val (.int x1), .val (.int y1), .val (.int v106), .val (.int v109), .val (.ref (A ka)), .val (.ref (A kb)), .unset] [(.int v106)])) _
              refine XS.bipush X115.here hx rfl (hb hby at_52) ?_
              show Steps p.tables e below (T115.setTop (mkF m 54 #[.val (.int x1), .val (.int y1), .val (.int v106), .val (.int v109), .val (.ref (A ka)), .val (.ref (A kb)), .unset] [(.int (16 : Int32)), (.int v106)])) _
              refine XS.icmpNo X115.here hx rfl (hb hby at_54) rfl (teq hc124).2 ?_
              show Steps p.tables e below (T115.setTop (mkF m 57 #[.val (.int x1), .val (.int y1), .val (.int v106), .val (.int v109), .val (.ref (A ka)), .val (.ref (A kb)), .unset] [])) _
              refine XS.iloadN X115.here hx rfl (hb hby at_57) rfl ?_
              show Steps p.tables e below (T115.setTop (mkF m 58 #[.val (.int x1), .val (.int y1), .val (.int v106), .val (.int v109), .val (.ref (A ka)), .val (.ref (A kb)), .unset] [(.int v109)])) _
              refine XS.bipush X115.here hx rfl (hb hby at_58) ?_
              show Steps p.tables e below (T115.setTop (mkF m 60 #[.val (.int x1), .val (.int y1), .val (.int v106), .val (.int v109), .val (.ref (A ka)), .val (.ref (A kb)), .unset] [(.int (17 : Int32)), (.int v109)])) _
              refine XS.icmpNo X115.here hx rfl (hb hby at_60) rfl (feq hc125).1 ?_
              show Steps p.tables e below (T115.setTop (mkF m 63 #[.val (.int x1), .val (.int y1), .val (.int v106), .val (.int v109), .val (.ref (A ka)), .val (.ref (A kb)), .unset] [])) _
              refine XS.iloadN X115.here hx rfl (hb hby at_63) rfl ?_
              show Steps p.tables e below (T115.setTop (mkF m 64 #[.val (.int x1), .val (.int y1), .val (.int v106), .val (.int v109), .val (.ref (A ka)), .val (.ref (A kb)), .unset] [(.int v109)])) _
              refine XS.bipush X115.here hx rfl (hb hby at_64) ?_
              show Steps p.tables e below (T115.setTop (mkF m 66 #[.val (.int x1), .val (.int y1), .val (.int v106), .val (.int v109), .val (.ref (A ka)), .val (.ref (A kb)), .unset] [(.int (18 : Int32)), (.int v109)])) _
              refine XS.icmpYes X115.here hx rfl (pc0 := 66) (pc' := 73) rfl (hb hby at_66) rfl (feq hc126).2 (by decide) (by decide) ?_
              show Steps p.tables e below (T115.setTop (mkF m 73 #[.val (.int x1), .val (.int y1), .val (.int v106), .val (.int v109), .val (.ref (A ka)), .val (.ref (A kb)), .unset] [])) _
              refine XS.iconst X115.here hx rfl (hb hby at_73) ?_
              exact kt
        · simp only [if_neg hc117, if_neg hc118, if_neg hc124] at kt
          show Steps p.tables e below (T115.setTop (mkF m 30 #[.val (.int x1), .val (.int y1), .val (.int v106), .val (.int v109), .val (.ref (A ka)), .val (.ref (A kb)), .unset] [(.int v109), (.int v106)])) _
          refine XS.icmpNo X115.here hx rfl (hb hby at_30) rfl (feq hc117).1 ?_
          show Steps p.tables e below (T115.setTop (mkF m 33 #[.val (.int x1), .val (.int y1), .val (.int v106), .val (.int v109), .val (.ref (A ka)), .val (.ref (A kb)), .unset] [])) _
          refine XS.iloadN X115.here hx rfl (hb hby at_33) rfl ?_
          show Steps p.tables e below (T115.setTop (mkF m 34 #[.val (.int x1), .val (.int y1), .val (.int v106), .val (.int v109), .val (.ref (A ka)), .val (.ref (A kb)), .unset] [(.int v106)])) _
          refine XS.bipush X115.here hx rfl (hb hby at_34) ?_
          show Steps p.tables e below (T115.setTop (mkF m 36 #[.val (.int x1), .val (.int y1), .val (.int v106), .val (.int v109), .val (.ref (A ka)), .val (.ref (A kb)), .unset] [(.int (12 : Int32)), (.int v106)])) _
          refine XS.icmpYes X115.here hx rfl (pc0 := 36) (pc' := 51) rfl (hb hby at_36) rfl (feq hc118).2 (by decide) (by decide) ?_
          show Steps p.tables e below (T115.setTop (mkF m 51 #[.val (.int x1), .val (.int y1), .val (.int v106), .val (.int v109), .val (.ref (A ka)), .val (.ref (A kb)), .unset] [])) _
          refine XS.iloadN X115.here hx rfl (hb hby at_51) rfl ?_
          show Steps p.tables e below (T115.setTop (mkF m 52 #[.val (.int x1), .val (.int y1), .val (.int v106), .val (.int v109), .val (.ref (A ka)), .val (.ref (A kb)), .unset] [(.int v106)])) _
          refine XS.bipush X115.here hx rfl (hb hby at_52) ?_
          show Steps p.tables e below (T115.setTop (mkF m 54 #[.val (.int x1), .val (.int y1), .val (.int v106), .val (.int v109), .val (.ref (A ka)), .val (.ref (A kb)), .unset] [(.int (16 : Int32)), (.int v106)])) _
          refine XS.icmpYes X115.here hx rfl (pc0 := 54) (pc' := 73) rfl (hb hby at_54) rfl (feq hc124).2 (by decide) (by decide) ?_
          show Steps p.tables e below (T115.setTop (mkF m 73 #[.val (.int x1), .val (.int y1), .val (.int v106), .val (.int v109), .val (.ref (A ka)), .val (.ref (A kb)), .unset] [])) _
          refine XS.iconst X115.here hx rfl (hb hby at_73) ?_
          exact kt
  have he := own_e hka hkb hv128
  have S129 : ∀ t, Steps p.tables e below (T115.setTop (mkF m 80 #[.val (.int x1), .val (.int y1), .val (.int v106), .val (.int v109), .val (.ref (A ka)), .val (.ref (A kb)), .val (.int v128)] [(.ref (A kb)), (.ref (A ka))])) t → Steps p.tables e below (T115.setTop (mkF m 74 #[.val (.int x1), .val (.int y1), .val (.int v106), .val (.int v109), .val (.ref (A ka)), .val (.ref (A kb)), .unset] [(.int v128)])) t := by
    intro t kt
    show Steps p.tables e below (T115.setTop (mkF m 74 #[.val (.int x1), .val (.int y1), .val (.int v106), .val (.int v109), .val (.ref (A ka)), .val (.ref (A kb)), .unset] [(.int v128)])) _
    refine XS.istore X115.here hx rfl (hb hby at_74) rfl (l' := #[.val (.int x1), .val (.int y1), .val (.int v106), .val (.int v109), .val (.ref (A ka)), .val (.ref (A kb)), .val (.int v128)]) rfl ?_
    show Steps p.tables e below (T115.setTop (mkF m 76 #[.val (.int x1), .val (.int y1), .val (.int v106), .val (.int v109), .val (.ref (A ka)), .val (.ref (A kb)), .val (.int v128)] [])) _
    refine XS.aload X115.here hx rfl (hb hby at_76) rfl rfl ?_
    show Steps p.tables e below (T115.setTop (mkF m 78 #[.val (.int x1), .val (.int y1), .val (.int v106), .val (.int v109), .val (.ref (A ka)), .val (.ref (A kb)), .val (.int v128)] [(.ref (A ka))])) _
    refine XS.aload X115.here hx rfl (hb hby at_78) rfl rfl ?_
    exact kt
  have C130 : ∀ t, Steps p.tables e below (T115.setTop (mkF m 80 #[.val (.int x1), .val (.int y1), .val (.int v106), .val (.int v109), .val (.ref (A ka)), .val (.ref (A kb)), .val (.int v128)] [(.ref (A kb)), (.ref (A ka))])) t → Steps p.tables e below (s₁.setTop (mkF m 0 #[.val (.int x1), .val (.int y1), .unset, .unset, .unset, .unset, .unset] [])) t := (fun t k => (S107 t (S108 t (S110 t (S111 t (S112 t (st113 t (S114 t (st115 t (S116 t (S127 t (S129 t k))))))))))))
  by_cases hab : ka = kb
  · have S131 : ∀ t, Steps p.tables e below (T115.setTop (mkF m 80 #[.val (.int x1), .val (.int y1), .val (.int v106), .val (.int v109), .val (.ref (A ka)), .val (.ref (A ka)), .val (.int v128)] [(.ref (A ka)), (.ref (A ka))])) t → Steps p.tables e below (T115.setTop (mkF m 80 #[.val (.int x1), .val (.int y1), .val (.int v106), .val (.int v109), .val (.ref (A ka)), .val (.ref (A kb)), .val (.int v128)] [(.ref (A kb)), (.ref (A ka))])) t := fun t k => by rw [(show A kb = A ka from by rw [hab])]; exact k
    obtain ⟨cq132, kq132, q132a, q132b, q132c⟩ := isOf hZ e115 (H.2.1 ka hka.2)
    obtain ⟨_, _, ⟨T132, L132, k132, n132⟩, -, X132, ⟨Lc132, hQ132, l132, y132, z132⟩, st132⟩ := X115.virtualBack hx (y := (⟨"com/example/bough3/bough3/model/SecurableType", "names", "(Lcom/example/bough3/bough3/model/SecurableType;)Z"⟩ : MethodName)) (z := (⟨"com/example/bough3/bough3/model/SecurableType", "names", "(Lcom/example/bough3/bough3/model/SecurableType;)Z"⟩ : MethodName)) hown (mvT hZ (hw _ (List.mem_of_getElem? (i := 10) rfl))) (mvT hZ (hw _ (List.mem_of_getElem? (i := 11) rfl))) (notFace_of_selects (args := #[]) (mvT hZ (hw _ (List.mem_of_getElem? (i := 13) rfl)))) (mvT hZ (hw _ (List.mem_of_getElem? (i := 13) rfl))) (mvT hZ (hw _ (List.mem_of_getElem? (i := 12) rfl))) (by decide) (backOf (W := 0) (rm_n1 l Z a0 hw [] (A ka) h0 n0 Z0 ) hZ (hw _ (List.mem_of_getElem? (i := 14) rfl)) (hw _ (List.mem_of_getElem? (i := 6) rfl)) (by decide) (by decide)) q132a q132c (g := (mkF m 80 #[.val (.int x1), .val (.int y1), .val (.int v106), .val (.int v109), .val (.ref (A ka)), .val (.ref (A ka)), .val (.int v128)] [(.ref (A ka)), (.ref (A ka))])) rfl (by rw [hml]; rfl) (Steps.refl _) (argsL := [(.ref (A ka))]) (rest := []) (lenOf pd_1 rfl) rfl (by show 2 * 0 + _ ≤ _; exact Nat.le_of_eq rfl) (hb hby at_80) (fun _ _ => ⟨rfl, e115, (by decide : 0 + 0 ≤ _), (by decide : 0 + 0 ≤ _)⟩)
    dsimp only [Pt.U, Pt.locs, Pt.cells, Pt.slots] at X132 l132 y132 z132 st132 hQ132
    subst l132 y132 z132
    obtain ⟨rfl, N132q, e132⟩ := hQ132
    have N132 := Fr.app N115 N132q
    have S133 : ∀ t, Steps p.tables e below (T132.setTop (mkF m 93 #[.val (.int x1), .val (.int y1), .val (.int v106), .val (.int v109), .val (.ref (A ka)), .val (.ref (A ka)), .val (.int v128)] [(.int (1 : Int32))])) t → Steps p.tables e below (T132.setTop (mkF m 83 #[.val (.int x1), .val (.int y1), .val (.int v106), .val (.int v109), .val (.ref (A ka)), .val (.ref (A ka)), .val (.int v128)] [(.int (1 : Int32))])) t := by
      intro t kt
      show Steps p.tables e below (T132.setTop (mkF m 83 #[.val (.int x1), .val (.int y1), .val (.int v106), .val (.int v109), .val (.ref (A ka)), .val (.ref (A ka)), .val (.int v128)] [(.int (1 : Int32))])) _
      refine XS.iload X132.here hx rfl (hb hby at_83) rfl ?_
      show Steps p.tables e below (T132.setTop (mkF m 85 #[.val (.int x1), .val (.int y1), .val (.int v106), .val (.int v109), .val (.ref (A ka)), .val (.ref (A ka)), .val (.int v128)] [(.int v128), (.int (1 : Int32))])) _
      refine XS.icmpNo X132.here hx rfl (hb hby at_85) rfl (teq (show (1 : Int32) = v128 from by rw [he, if_pos (Or.inl hab)])).2 ?_
      show Steps p.tables e below (T132.setTop (mkF m 88 #[.val (.int x1), .val (.int y1), .val (.int v106), .val (.int v109), .val (.ref (A ka)), .val (.ref (A ka)), .val (.int v128)] [])) _
      refine XS.iconst X132.here hx rfl (hb hby at_88) ?_
      show Steps p.tables e below (T132.setTop (mkF m 89 #[.val (.int x1), .val (.int y1), .val (.int v106), .val (.int v109), .val (.ref (A ka)), .val (.ref (A ka)), .val (.int v128)] [(.int (1 : Int32))])) _
      refine XS.goto X132.here hx rfl (pc0 := 89) (pc' := 93) rfl (hb hby at_89) (by decide) (by decide) ?_
      exact kt
    have C134 : ∀ t, Steps p.tables e below (T132.setTop (mkF m 93 #[.val (.int x1), .val (.int y1), .val (.int v106), .val (.int v109), .val (.ref (A ka)), .val (.ref (A ka)), .val (.int v128)] [(.int (1 : Int32))])) t → Steps p.tables e below (s₁.setTop (mkF m 0 #[.val (.int x1), .val (.int y1), .unset, .unset, .unset, .unset, .unset] [])) t := (fun t k => (C130 t (S131 t (st132.trans (S133 t k)))))
    obtain ⟨fs, hr, hrun, hended, hW, hsame⟩ := X132.leave (v := some (.int (1 : Int32))) (fun h => by rw [Bd.returns] at h; cases h)
    refine ⟨_, _, pre0 _ (C134 _ ?_), hrun, hended, _, _, rfl, ?_, ⟨_, rfl⟩, hW, hsame.mono (by decide) (by decide)⟩
    · exact retN X132 hx (t := .boolean) Bd.returns (by simp) (hb hby at_93) hr
    · show Q_rm0 Z A x1 y1 h0 n0 _ T132.heap _
      rw [e132]
      exact ⟨rfl, N132⟩
  · have hne : A kb ≠ A ka := own_inj H hkb.2 hka.2 (Ne.symm hab)
    have hF := H.2.2.2 kb hkb.2
    by_cases hnm : own_nm kb = ka
    · rw [hnm] at hF
      obtain ⟨cq135, kq135, q135a, q135b, q135c⟩ := isOf hZ e115 (H.2.1 ka hka.2)
      obtain ⟨_, _, ⟨T135, L135, k135, n135⟩, -, X135, ⟨Lc135, hQ135, l135, y135, z135⟩, st135⟩ := X115.virtualBack hx (y := (⟨"com/example/bough3/bough3/model/SecurableType", "names", "(Lcom/example/bough3/bough3/model/SecurableType;)Z"⟩ : MethodName)) (z := (⟨"com/example/bough3/bough3/model/SecurableType", "names", "(Lcom/example/bough3/bough3/model/SecurableType;)Z"⟩ : MethodName)) hown (mvT hZ (hw _ (List.mem_of_getElem? (i := 10) rfl))) (mvT hZ (hw _ (List.mem_of_getElem? (i := 11) rfl))) (notFace_of_selects (args := #[]) (mvT hZ (hw _ (List.mem_of_getElem? (i := 13) rfl)))) (mvT hZ (hw _ (List.mem_of_getElem? (i := 13) rfl))) (mvT hZ (hw _ (List.mem_of_getElem? (i := 12) rfl))) (by decide) (backOf (W := 0) (rm_n2 l Z a0 hw [] (A ka) (A kb) h0 n0 Z0 hF hne) hZ (hw _ (List.mem_of_getElem? (i := 14) rfl)) (hw _ (List.mem_of_getElem? (i := 6) rfl)) (by decide) (by decide)) q135a q135c (g := (mkF m 80 #[.val (.int x1), .val (.int y1), .val (.int v106), .val (.int v109), .val (.ref (A ka)), .val (.ref (A kb)), .val (.int v128)] [(.ref (A kb)), (.ref (A ka))])) rfl (by rw [hml]; rfl) (Steps.refl _) (argsL := [(.ref (A kb))]) (rest := []) (lenOf pd_1 rfl) rfl (by show 2 * 0 + _ ≤ _; exact Nat.le_of_eq rfl) (hb hby at_80) (fun _ _ => ⟨rfl, e115, (by decide : 0 + 0 ≤ _), (by decide : 0 + 0 ≤ _)⟩)
      dsimp only [Pt.U, Pt.locs, Pt.cells, Pt.slots] at X135 l135 y135 z135 st135 hQ135
      subst l135 y135 z135
      obtain ⟨rfl, N135q, e135⟩ := hQ135
      have N135 := Fr.app N115 N135q
      have S136 : ∀ t, Steps p.tables e below (T135.setTop (mkF m 93 #[.val (.int x1), .val (.int y1), .val (.int v106), .val (.int v109), .val (.ref (A ka)), .val (.ref (A kb)), .val (.int v128)] [(.int (1 : Int32))])) t → Steps p.tables e below (T135.setTop (mkF m 83 #[.val (.int x1), .val (.int y1), .val (.int v106), .val (.int v109), .val (.ref (A ka)), .val (.ref (A kb)), .val (.int v128)] [(.int (1 : Int32))])) t := by
        intro t kt
        show Steps p.tables e below (T135.setTop (mkF m 83 #[.val (.int x1), .val (.int y1), .val (.int v106), .val (.int v109), .val (.ref (A ka)), .val (.ref (A kb)), .val (.int v128)] [(.int (1 : Int32))])) _
        refine XS.iload X135.here hx rfl (hb hby at_83) rfl ?_
        show Steps p.tables e below (T135.setTop (mkF m 85 #[.val (.int x1), .val (.int y1), .val (.int v106), .val (.int v109), .val (.ref (A ka)), .val (.ref (A kb)), .val (.int v128)] [(.int v128), (.int (1 : Int32))])) _
        refine XS.icmpNo X135.here hx rfl (hb hby at_85) rfl (teq (show (1 : Int32) = v128 from by rw [he, if_pos (Or.inr hnm)])).2 ?_
        show Steps p.tables e below (T135.setTop (mkF m 88 #[.val (.int x1), .val (.int y1), .val (.int v106), .val (.int v109), .val (.ref (A ka)), .val (.ref (A kb)), .val (.int v128)] [])) _
        refine XS.iconst X135.here hx rfl (hb hby at_88) ?_
        show Steps p.tables e below (T135.setTop (mkF m 89 #[.val (.int x1), .val (.int y1), .val (.int v106), .val (.int v109), .val (.ref (A ka)), .val (.ref (A kb)), .val (.int v128)] [(.int (1 : Int32))])) _
        refine XS.goto X135.here hx rfl (pc0 := 89) (pc' := 93) rfl (hb hby at_89) (by decide) (by decide) ?_
        exact kt
      have C137 : ∀ t, Steps p.tables e below (T135.setTop (mkF m 93 #[.val (.int x1), .val (.int y1), .val (.int v106), .val (.int v109), .val (.ref (A ka)), .val (.ref (A kb)), .val (.int v128)] [(.int (1 : Int32))])) t → Steps p.tables e below (s₁.setTop (mkF m 0 #[.val (.int x1), .val (.int y1), .unset, .unset, .unset, .unset, .unset] [])) t := (fun t k => (C130 t (st135.trans (S136 t k))))
      obtain ⟨fs, hr, hrun, hended, hW, hsame⟩ := X135.leave (v := some (.int (1 : Int32))) (fun h => by rw [Bd.returns] at h; cases h)
      refine ⟨_, _, pre0 _ (C137 _ ?_), hrun, hended, _, _, rfl, ?_, ⟨_, rfl⟩, hW, hsame.mono (by decide) (by decide)⟩
      · exact retN X135 hx (t := .boolean) Bd.returns (by simp) (hb hby at_93) hr
      · show Q_rm0 Z A x1 y1 h0 n0 _ T135.heap _
        rw [e135]
        exact ⟨rfl, N135⟩
    · have hne2 : A (own_nm kb) ≠ A ka := own_inj H (own_nm_lt hkb.2) hka.2 hnm
      obtain ⟨cq138, kq138, q138a, q138b, q138c⟩ := isOf hZ e115 (H.2.1 ka hka.2)
      obtain ⟨_, _, ⟨T138, L138, k138, n138⟩, -, X138, ⟨Lc138, hQ138, l138, y138, z138⟩, st138⟩ := X115.virtualBack hx (y := (⟨"com/example/bough3/bough3/model/SecurableType", "names", "(Lcom/example/bough3/bough3/model/SecurableType;)Z"⟩ : MethodName)) (z := (⟨"com/example/bough3/bough3/model/SecurableType", "names", "(Lcom/example/bough3/bough3/model/SecurableType;)Z"⟩ : MethodName)) hown (mvT hZ (hw _ (List.mem_of_getElem? (i := 10) rfl))) (mvT hZ (hw _ (List.mem_of_getElem? (i := 11) rfl))) (notFace_of_selects (args := #[]) (mvT hZ (hw _ (List.mem_of_getElem? (i := 13) rfl)))) (mvT hZ (hw _ (List.mem_of_getElem? (i := 13) rfl))) (mvT hZ (hw _ (List.mem_of_getElem? (i := 12) rfl))) (by decide) (backOf (W := 0) (rm_n3 l Z a0 hw [] (A ka) (A kb) (A (own_nm kb)) h0 n0 Z0 hF hne hne2) hZ (hw _ (List.mem_of_getElem? (i := 14) rfl)) (hw _ (List.mem_of_getElem? (i := 6) rfl)) (by decide) (by decide)) q138a q138c (g := (mkF m 80 #[.val (.int x1), .val (.int y1), .val (.int v106), .val (.int v109), .val (.ref (A ka)), .val (.ref (A kb)), .val (.int v128)] [(.ref (A kb)), (.ref (A ka))])) rfl (by rw [hml]; rfl) (Steps.refl _) (argsL := [(.ref (A kb))]) (rest := []) (lenOf pd_1 rfl) rfl (by show 2 * 0 + _ ≤ _; exact Nat.le_of_eq rfl) (hb hby at_80) (fun _ _ => ⟨rfl, e115, (by decide : 0 + 0 ≤ _), (by decide : 0 + 0 ≤ _)⟩)
      dsimp only [Pt.U, Pt.locs, Pt.cells, Pt.slots] at X138 l138 y138 z138 st138 hQ138
      subst l138 y138 z138
      obtain ⟨rfl, N138q, e138⟩ := hQ138
      have N138 := Fr.app N115 N138q
      have S139 : ∀ t, Steps p.tables e below (T138.setTop (mkF m 93 #[.val (.int x1), .val (.int y1), .val (.int v106), .val (.int v109), .val (.ref (A ka)), .val (.ref (A kb)), .val (.int v128)] [(.int (1 : Int32))])) t → Steps p.tables e below (T138.setTop (mkF m 83 #[.val (.int x1), .val (.int y1), .val (.int v106), .val (.int v109), .val (.ref (A ka)), .val (.ref (A kb)), .val (.int v128)] [(.int (0 : Int32))])) t := by
        intro t kt
        show Steps p.tables e below (T138.setTop (mkF m 83 #[.val (.int x1), .val (.int y1), .val (.int v106), .val (.int v109), .val (.ref (A ka)), .val (.ref (A kb)), .val (.int v128)] [(.int (0 : Int32))])) _
        refine XS.iload X138.here hx rfl (hb hby at_83) rfl ?_
        show Steps p.tables e below (T138.setTop (mkF m 85 #[.val (.int x1), .val (.int y1), .val (.int v106), .val (.int v109), .val (.ref (A ka)), .val (.ref (A kb)), .val (.int v128)] [(.int v128), (.int (0 : Int32))])) _
        refine XS.icmpNo X138.here hx rfl (hb hby at_85) rfl (teq (show (0 : Int32) = v128 from by rw [he, if_neg (not_or.mpr ⟨hab, hnm⟩)])).2 ?_
        show Steps p.tables e below (T138.setTop (mkF m 88 #[.val (.int x1), .val (.int y1), .val (.int v106), .val (.int v109), .val (.ref (A ka)), .val (.ref (A kb)), .val (.int v128)] [])) _
        refine XS.iconst X138.here hx rfl (hb hby at_88) ?_
        show Steps p.tables e below (T138.setTop (mkF m 89 #[.val (.int x1), .val (.int y1), .val (.int v106), .val (.int v109), .val (.ref (A ka)), .val (.ref (A kb)), .val (.int v128)] [(.int (1 : Int32))])) _
        refine XS.goto X138.here hx rfl (pc0 := 89) (pc' := 93) rfl (hb hby at_89) (by decide) (by decide) ?_
        exact kt
      have C140 : ∀ t, Steps p.tables e below (T138.setTop (mkF m 93 #[.val (.int x1), .val (.int y1), .val (.int v106), .val (.int v109), .val (.ref (A ka)), .val (.ref (A kb)), .val (.int v128)] [(.int (1 : Int32))])) t → Steps p.tables e below (s₁.setTop (mkF m 0 #[.val (.int x1), .val (.int y1), .unset, .unset, .unset, .unset, .unset] [])) t := (fun t k => (C130 t (st138.trans (S139 t k))))
      obtain ⟨fs, hr, hrun, hended, hW, hsame⟩ := X138.leave (v := some (.int (1 : Int32))) (fun h => by rw [Bd.returns] at h; cases h)
      refine ⟨_, _, pre0 _ (C140 _ ?_), hrun, hended, _, _, rfl, ?_, ⟨_, rfl⟩, hW, hsame.mono (by decide) (by decide)⟩
      · exact retN X138 hx (t := .boolean) Bd.returns (by simp) (hb hby at_93) hr
      · show Q_rm0 Z A x1 y1 h0 n0 _ T138.heap _
        rw [e138]
        exact ⟨rfl, N138⟩

theorem own_eq_v {args : Array Value} {first s : State} {o : Option Outcome} {idx : List Nat} {a b : Term} {y : Value} (h : (Cond.eq a b).value args first o s idx = some true) (hb : b.eval args first o idx s = some y) (hy : y.isRef = true ∨ ∃ z, y = .int z) : a.eval args first o idx s = some y := by
  obtain ⟨x, y', e1, e2, k1, k2⟩ := cmp_v (Or.inl h)
  obtain rfl : y' = y := Option.some.inj (e2.symm.trans hb)
  rcases hy with hy | ⟨z, rfl⟩
  · have hx : x.isRef = true := by
      rcases ref_cases hy with rfl | ⟨q, rfl⟩ <;> exact k2.2
    have := gotT (eq_R e1 e2 hx hy) h
    rw [e1, this]
  · obtain ⟨q, rfl⟩ := k2
    have hq : (Cond.eq a b).value args first o s idx = some (decide (q = z)) := by simp [Cond.value, e1, e2]
    have := gotT hq h
    rw [e1, this]
set_option maxRecDepth 65536 in
set_option maxHeartbeats 40000000 in
theorem comes_1 {Post : Tables → Env → Array Value → State → Outcome → State → Prop} (hpost : ∀ tb e args s v u, (limb_1_1.after args s (.returned v) u = true ∧ limb_1_2.after args s (.returned v) u = true ∧ True) → FrameEnd s (.returned v) u (Jvm.fieldLocs frame_1_writes args s ++ Jvm.arrayLocs frame_1_arrays args s ++ Jvm.staticLocs frame_1_statics s) 0 0 → Post tb e args s (.returned v) u) :
    ArmFor flags0 classFile x code maxLocals ret World_1 tables_1 room_1 Calls_1 rest_1 Pre_1 Post := by
  intro l hfl _ _ p e ha hc hk s m args below hf hA hF happ hP
  obtain ⟨hcalls, hrest, hpre⟩ := hP
  obtain ⟨-, -, -, hnamed, -, -, -, hat⟩ := (Spec.applies_iff hf).mp happ
  obtain ⟨hg, hn⟩ := and_e (Cond.before_iff.mp (show (Jvm.Cond.and given_1 narrow_1).before args s = true from hpre))
  obtain ⟨gg1, gg2⟩ := and_e hg
  obtain ⟨gg3, gg4⟩ := and_e gg2
  obtain ⟨w0, w1, rfl⟩ : ∃ w0 w1 : Value, args = #[w0, w1] := by
    have hs : args.size = 2 := by simpa [Cond.value, given_1] using gg1
    obtain ⟨L⟩ := args
    match L, hs with
    | [w0, w1], _ => exact ⟨w0, w1, rfl⟩
  have hw := fun d (hd : d ∈ tables_1) => atoms_spec (ws := Jvm.Cond.code x code maxLocals ret :: tables_1) hat d (List.mem_cons_of_mem _ hd)
  have hfit : Fit s := fun {y c} hc i hi => by
    obtain ⟨ha, rfl⟩ := Array.getElem?_eq_some_iff.mp hc
    have q := List.all_eq_true.mp ((Array.all_eq_true_iff_forall_mem.mp hF) _ (Array.getElem_mem ha)) i (List.mem_range.mpr hi)
    simpa [Array.getElem?_eq_getElem hi] using q
  obtain ⟨i0, ei0⟩ := is_v gg3
  obtain rfl : w0 = (.int i0) := Option.some.inj ei0
  obtain ⟨i1, ei1⟩ := is_v gg4
  obtain rfl : w1 = (.int i1) := Option.some.inj ei1
  obtain ⟨na1, nb1⟩ := and_e hn
  obtain ⟨na2, nb2⟩ := and_e nb1
  obtain ⟨na3, nb3⟩ := and_e nb2
  obtain ⟨na4, nb4⟩ := and_e nb3
  obtain ⟨na5, nb5⟩ := and_e nb4
  obtain ⟨na6, nb6⟩ := and_e nb5
  obtain ⟨na7, nb7⟩ := and_e nb6
  obtain ⟨na8, nb8⟩ := and_e nb7
  obtain ⟨na9, nb9⟩ := and_e nb8
  obtain ⟨na10, nb10⟩ := and_e nb9
  obtain ⟨na11, nb11⟩ := and_e nb10
  obtain ⟨na12, nb12⟩ := and_e nb11
  obtain ⟨na13, nb13⟩ := and_e nb12
  obtain ⟨na14, nb14⟩ := and_e nb13
  obtain ⟨na15, nb15⟩ := and_e nb14
  obtain ⟨na16, nb16⟩ := and_e nb15
  obtain ⟨na17, nb17⟩ := and_e nb16
  obtain ⟨na18, nb18⟩ := and_e nb17
  obtain ⟨na19, nb19⟩ := and_e nb18
  obtain ⟨na20, nb20⟩ := and_e nb19
  obtain ⟨na21, nb21⟩ := and_e nb20
  obtain ⟨na22, nb22⟩ := and_e nb21
  obtain ⟨na23, nb23⟩ := and_e nb22
  obtain ⟨na24, nb24⟩ := and_e nb23
  obtain ⟨na25, nb25⟩ := and_e nb24
  obtain ⟨na26, nb26⟩ := and_e nb25
  obtain ⟨na27, nb27⟩ := and_e nb26
  obtain ⟨na28, nb28⟩ := and_e nb27
  obtain ⟨na29, nb29⟩ := and_e nb28
  obtain ⟨na30, nb30⟩ := and_e nb29
  obtain ⟨na31, nb31⟩ := and_e nb30
  obtain ⟨na32, nb32⟩ := and_e nb31
  obtain ⟨na33, nb33⟩ := and_e nb32
  obtain ⟨na34, nb34⟩ := and_e nb33
  obtain ⟨na35, nb35⟩ := and_e nb34
  obtain ⟨na36, nb36⟩ := and_e nb35
  obtain ⟨na37, nb37⟩ := and_e nb36
  obtain ⟨na38, nb38⟩ := and_e nb37
  obtain ⟨na39, nb39⟩ := and_e nb38
  obtain ⟨na40, nb40⟩ := and_e nb39
  obtain ⟨na41, nb41⟩ := and_e nb40
  obtain ⟨na42, nb42⟩ := and_e nb41
  obtain ⟨na43, nb43⟩ := and_e nb42
  obtain ⟨na44, nb44⟩ := and_e nb43
  obtain ⟨na45, nb45⟩ := and_e nb44
  obtain ⟨na46, nb46⟩ := and_e nb45
  obtain ⟨na47, nb47⟩ := and_e nb46
  obtain ⟨na48, nb48⟩ := and_e nb47
  obtain ⟨na49, nb49⟩ := and_e nb48
  obtain ⟨na50, nb50⟩ := and_e nb49
  obtain ⟨na51, nb51⟩ := and_e nb50
  obtain ⟨na52, nb52⟩ := and_e nb51
  obtain ⟨na53, nb53⟩ := and_e nb52
  obtain ⟨na54, nb54⟩ := and_e nb53
  obtain ⟨na55, nb55⟩ := and_e nb54
  obtain ⟨na56, nb56⟩ := and_e nb55
  obtain ⟨q0, ev0⟩ := exa_v na1
  obtain ⟨q1, ev1⟩ := exa_v na7
  obtain ⟨q2, ev2⟩ := exa_v na18
  obtain ⟨q3, ev3⟩ := exa_v na2
  obtain ⟨q4, ev4⟩ := exa_v na38
  obtain ⟨q5, ev5⟩ := exa_v na34
  obtain ⟨q6, ev6⟩ := exa_v na26
  obtain ⟨q7, ev7⟩ := exa_v na37
  obtain ⟨q8, ev8⟩ := exa_v na31
  obtain ⟨q9, ev9⟩ := exa_v na20
  obtain ⟨q10, ev10⟩ := exa_v na27
  obtain ⟨q11, ev11⟩ := exa_v na44
  obtain ⟨q12, ev12⟩ := exa_v na23
  obtain ⟨q13, ev13⟩ := exa_v na11
  obtain ⟨q14, ev14⟩ := exa_v na6
  obtain ⟨q15, ev15⟩ := exa_v na47
  obtain ⟨q16, ev16⟩ := exa_v na15
  obtain ⟨q17, ev17⟩ := exa_v na12
  obtain ⟨q18, ev18⟩ := exa_v na50
  obtain ⟨A, hA⟩ : ∃ A : Nat → Addr, A = fun k => ([q0, q1, q2, q3, q4, q5, q6, q7, q8, q9, q10, q11, q12, q13, q14, q15, q16, q17, q18] : List Addr).getD k 0 := ⟨_, rfl⟩
  have S0 := Sta.start ev0 (Or.inr ⟨hw _ (List.mem_of_getElem? (i := 6) rfl), hw _ (List.mem_of_getElem? (i := 7) rfl)⟩)
  have X0 := Exa.start ev0 na1
  have O0 := Fld.start ((fld_at ev0).symm.trans (own_eq_v na4 (Term.int_eval (0)) (Or.inr ⟨_, rfl⟩)))
  have M0 := Fld.start ((fld_at ev0).symm.trans (own_eq_v na22 ev0 (Or.inl rfl)))
  have S1 := Sta.start ev1 (Or.inr ⟨hw _ (List.mem_of_getElem? (i := 6) rfl), hw _ (List.mem_of_getElem? (i := 20) rfl)⟩)
  have X1 := Exa.start ev1 na7
  have O1 := Fld.start ((fld_at ev1).symm.trans (own_eq_v na8 (Term.int_eval (1)) (Or.inr ⟨_, rfl⟩)))
  have M1 := Fld.start ((fld_at ev1).symm.trans (own_eq_v na10 ev1 (Or.inl rfl)))
  have S2 := Sta.start ev2 (Or.inr ⟨hw _ (List.mem_of_getElem? (i := 6) rfl), hw _ (List.mem_of_getElem? (i := 27) rfl)⟩)
  have X2 := Exa.start ev2 na18
  have O2 := Fld.start ((fld_at ev2).symm.trans (own_eq_v na19 (Term.int_eval (2)) (Or.inr ⟨_, rfl⟩)))
  have M2 := Fld.start ((fld_at ev2).symm.trans (own_eq_v na33 ev2 (Or.inl rfl)))
  have S3 := Sta.start ev3 (Or.inr ⟨hw _ (List.mem_of_getElem? (i := 6) rfl), hw _ (List.mem_of_getElem? (i := 9) rfl)⟩)
  have X3 := Exa.start ev3 na2
  have O3 := Fld.start ((fld_at ev3).symm.trans (own_eq_v na3 (Term.int_eval (3)) (Or.inr ⟨_, rfl⟩)))
  have M3 := Fld.start ((fld_at ev3).symm.trans (own_eq_v na5 ev3 (Or.inl rfl)))
  have S4 := Sta.start ev4 (Or.inr ⟨hw _ (List.mem_of_getElem? (i := 6) rfl), hw _ (List.mem_of_getElem? (i := 43) rfl)⟩)
  have X4 := Exa.start ev4 na38
  have O4 := Fld.start ((fld_at ev4).symm.trans (own_eq_v na39 (Term.int_eval (4)) (Or.inr ⟨_, rfl⟩)))
  have M4 := Fld.start ((fld_at ev4).symm.trans (own_eq_v na41 ev4 (Or.inl rfl)))
  have S5 := Sta.start ev5 (Or.inr ⟨hw _ (List.mem_of_getElem? (i := 6) rfl), hw _ (List.mem_of_getElem? (i := 39) rfl)⟩)
  have X5 := Exa.start ev5 na34
  have O5 := Fld.start ((fld_at ev5).symm.trans (own_eq_v na35 (Term.int_eval (5)) (Or.inr ⟨_, rfl⟩)))
  have M5 := Fld.start ((fld_at ev5).symm.trans (own_eq_v na36 ev5 (Or.inl rfl)))
  have S6 := Sta.start ev6 (Or.inr ⟨hw _ (List.mem_of_getElem? (i := 6) rfl), hw _ (List.mem_of_getElem? (i := 32) rfl)⟩)
  have X6 := Exa.start ev6 na26
  have O6 := Fld.start ((fld_at ev6).symm.trans (own_eq_v na29 (Term.int_eval (6)) (Or.inr ⟨_, rfl⟩)))
  have M6 := Fld.start ((fld_at ev6).symm.trans (own_eq_v na53 ev6 (Or.inl rfl)))
  have S7 := Sta.start ev7 (Or.inr ⟨hw _ (List.mem_of_getElem? (i := 6) rfl), hw _ (List.mem_of_getElem? (i := 41) rfl)⟩)
  have X7 := Exa.start ev7 na37
  have O7 := Fld.start ((fld_at ev7).symm.trans (own_eq_v na40 (Term.int_eval (7)) (Or.inr ⟨_, rfl⟩)))
  have M7 := Fld.start ((fld_at ev7).symm.trans (own_eq_v na46 ev7 (Or.inl rfl)))
  have S8 := Sta.start ev8 (Or.inr ⟨hw _ (List.mem_of_getElem? (i := 6) rfl), hw _ (List.mem_of_getElem? (i := 36) rfl)⟩)
  have X8 := Exa.start ev8 na31
  have O8 := Fld.start ((fld_at ev8).symm.trans (own_eq_v na32 (Term.int_eval (8)) (Or.inr ⟨_, rfl⟩)))
  have M8 := Fld.start ((fld_at ev8).symm.trans (own_eq_v na42 ev8 (Or.inl rfl)))
  have S9 := Sta.start ev9 (Or.inr ⟨hw _ (List.mem_of_getElem? (i := 6) rfl), hw _ (List.mem_of_getElem? (i := 29) rfl)⟩)
  have X9 := Exa.start ev9 na20
  have O9 := Fld.start ((fld_at ev9).symm.trans (own_eq_v na21 (Term.int_eval (9)) (Or.inr ⟨_, rfl⟩)))
  have M9 := Fld.start ((fld_at ev9).symm.trans (own_eq_v na43 ev9 (Or.inl rfl)))
  have S10 := Sta.start ev10 (Or.inr ⟨hw _ (List.mem_of_getElem? (i := 6) rfl), hw _ (List.mem_of_getElem? (i := 34) rfl)⟩)
  have X10 := Exa.start ev10 na27
  have O10 := Fld.start ((fld_at ev10).symm.trans (own_eq_v na28 (Term.int_eval (10)) (Or.inr ⟨_, rfl⟩)))
  have M10 := Fld.start ((fld_at ev10).symm.trans (own_eq_v na30 ev10 (Or.inl rfl)))
  have S11 := Sta.start ev11 (Or.inr ⟨hw _ (List.mem_of_getElem? (i := 6) rfl), hw _ (List.mem_of_getElem? (i := 46) rfl)⟩)
  have X11 := Exa.start ev11 na44
  have O11 := Fld.start ((fld_at ev11).symm.trans (own_eq_v na45 (Term.int_eval (11)) (Or.inr ⟨_, rfl⟩)))
  have M11 := Fld.start ((fld_at ev11).symm.trans (own_eq_v na56 ev11 (Or.inl rfl)))
  have S12 := Sta.start ev12 (Or.inr ⟨hw _ (List.mem_of_getElem? (i := 6) rfl), hw _ (List.mem_of_getElem? (i := 30) rfl)⟩)
  have X12 := Exa.start ev12 na23
  have O12 := Fld.start ((fld_at ev12).symm.trans (own_eq_v na25 (Term.int_eval (12)) (Or.inr ⟨_, rfl⟩)))
  have M12 := Fld.start ((fld_at ev12).symm.trans (own_eq_v na55 ev12 (Or.inl rfl)))
  have S13 := Sta.start ev13 (Or.inr ⟨hw _ (List.mem_of_getElem? (i := 6) rfl), hw _ (List.mem_of_getElem? (i := 22) rfl)⟩)
  have X13 := Exa.start ev13 na11
  have O13 := Fld.start ((fld_at ev13).symm.trans (own_eq_v na14 (Term.int_eval (13)) (Or.inr ⟨_, rfl⟩)))
  have M13 := Fld.start ((fld_at ev13).symm.trans (own_eq_v na24 ev12 (Or.inl rfl)))
  have S14 := Sta.start ev14 (Or.inr ⟨hw _ (List.mem_of_getElem? (i := 6) rfl), hw _ (List.mem_of_getElem? (i := 18) rfl)⟩)
  have X14 := Exa.start ev14 na6
  have O14 := Fld.start ((fld_at ev14).symm.trans (own_eq_v na9 (Term.int_eval (14)) (Or.inr ⟨_, rfl⟩)))
  have M14 := Fld.start ((fld_at ev14).symm.trans (own_eq_v na54 ev12 (Or.inl rfl)))
  have S15 := Sta.start ev15 (Or.inr ⟨hw _ (List.mem_of_getElem? (i := 6) rfl), hw _ (List.mem_of_getElem? (i := 48) rfl)⟩)
  have X15 := Exa.start ev15 na47
  have O15 := Fld.start ((fld_at ev15).symm.trans (own_eq_v na48 (Term.int_eval (15)) (Or.inr ⟨_, rfl⟩)))
  have M15 := Fld.start ((fld_at ev15).symm.trans (own_eq_v na49 ev15 (Or.inl rfl)))
  have S16 := Sta.start ev16 (Or.inr ⟨hw _ (List.mem_of_getElem? (i := 6) rfl), hw _ (List.mem_of_getElem? (i := 25) rfl)⟩)
  have X16 := Exa.start ev16 na15
  have O16 := Fld.start ((fld_at ev16).symm.trans (own_eq_v na17 (Term.int_eval (16)) (Or.inr ⟨_, rfl⟩)))
  have M16 := Fld.start ((fld_at ev16).symm.trans (own_eq_v nb56 ev16 (Or.inl rfl)))
  have S17 := Sta.start ev17 (Or.inr ⟨hw _ (List.mem_of_getElem? (i := 6) rfl), hw _ (List.mem_of_getElem? (i := 24) rfl)⟩)
  have X17 := Exa.start ev17 na12
  have O17 := Fld.start ((fld_at ev17).symm.trans (own_eq_v na13 (Term.int_eval (17)) (Or.inr ⟨_, rfl⟩)))
  have M17 := Fld.start ((fld_at ev17).symm.trans (own_eq_v na16 ev16 (Or.inl rfl)))
  have S18 := Sta.start ev18 (Or.inr ⟨hw _ (List.mem_of_getElem? (i := 6) rfl), hw _ (List.mem_of_getElem? (i := 50) rfl)⟩)
  have X18 := Exa.start ev18 na50
  have O18 := Fld.start ((fld_at ev18).symm.trans (own_eq_v na51 (Term.int_eval (18)) (Or.inr ⟨_, rfl⟩)))
  have M18 := Fld.start ((fld_at ev18).symm.trans (own_eq_v na52 ev16 (Or.inl rfl)))
  have HE : own_en s s.heap A := by
    subst hA
    refine ⟨⟨S0, S1, S2, S3, S4, S5, S6, S7, S8, S9, S10, S11, S12, S13, S14, S15, S16, S17, S18⟩, fun k hk => ?_, fun k hk => ?_, fun k hk => ?_⟩
    · rcases (show k = 0 ∨ k = 1 ∨ k = 2 ∨ k = 3 ∨ k = 4 ∨ k = 5 ∨ k = 6 ∨ k = 7 ∨ k = 8 ∨ k = 9 ∨ k = 10 ∨ k = 11 ∨ k = 12 ∨ k = 13 ∨ k = 14 ∨ k = 15 ∨ k = 16 ∨ k = 17 ∨ k = 18 by omega) with rfl | rfl | rfl | rfl | rfl | rfl | rfl | rfl | rfl | rfl | rfl | rfl | rfl | rfl | rfl | rfl | rfl | rfl | rfl
      · exact X0
      · exact X1
      · exact X2
      · exact X3
      · exact X4
      · exact X5
      · exact X6
      · exact X7
      · exact X8
      · exact X9
      · exact X10
      · exact X11
      · exact X12
      · exact X13
      · exact X14
      · exact X15
      · exact X16
      · exact X17
      · exact X18
    · rcases (show k = 0 ∨ k = 1 ∨ k = 2 ∨ k = 3 ∨ k = 4 ∨ k = 5 ∨ k = 6 ∨ k = 7 ∨ k = 8 ∨ k = 9 ∨ k = 10 ∨ k = 11 ∨ k = 12 ∨ k = 13 ∨ k = 14 ∨ k = 15 ∨ k = 16 ∨ k = 17 ∨ k = 18 by omega) with rfl | rfl | rfl | rfl | rfl | rfl | rfl | rfl | rfl | rfl | rfl | rfl | rfl | rfl | rfl | rfl | rfl | rfl | rfl
      · exact O0
      · exact O1
      · exact O2
      · exact O3
      · exact O4
      · exact O5
      · exact O6
      · exact O7
      · exact O8
      · exact O9
      · exact O10
      · exact O11
      · exact O12
      · exact O13
      · exact O14
      · exact O15
      · exact O16
      · exact O17
      · exact O18
    · rcases (show k = 0 ∨ k = 1 ∨ k = 2 ∨ k = 3 ∨ k = 4 ∨ k = 5 ∨ k = 6 ∨ k = 7 ∨ k = 8 ∨ k = 9 ∨ k = 10 ∨ k = 11 ∨ k = 12 ∨ k = 13 ∨ k = 14 ∨ k = 15 ∨ k = 16 ∨ k = 17 ∨ k = 18 by omega) with rfl | rfl | rfl | rfl | rfl | rfl | rfl | rfl | rfl | rfl | rfl | rfl | rfl | rfl | rfl | rfl | rfl | rfl | rfl
      · exact M0
      · exact M1
      · exact M2
      · exact M3
      · exact M4
      · exact M5
      · exact M6
      · exact M7
      · exact M8
      · exact M9
      · exact M10
      · exact M11
      · exact M12
      · exact M13
      · exact M14
      · exact M15
      · exact M16
      · exact M17
      · exact M18
  obtain ⟨n, o, h1, h2, h3, _, L, rfl, ⟨rfl, N⟩, hq⟩ := rm0 l s _ hw tables_1 A i0 i1 s.heap s.heap.size (Nat.le_refl _) HE p e ha hc hk s m _ below hf ((Spec.applies_iff_loose hf).mp happ).1 ⟨rfl, State.Warmed39.refl s, rfl⟩ trivial
  refine ⟨n, _, h1, h2, h3, hpost _ _ _ _ _ _ ⟨Cond.after_iff.mpr rfl, Cond.after_iff.mpr (eq_i res_at (Term.int_eval (1)) rfl), trivial⟩ ⟨hq.1, hq.2.1, (hq.2.2.sift fun y hy => Or.inr (N y hy)).mono (by decide) (by decide)⟩⟩
theorem main_1_1 : Claimed_1_1 := comes_1 fun _ _ _ _ _ _ h hF => ⟨h.1, hF⟩
theorem main_1_2 : Claimed_1_2 := comes_1 fun _ _ _ _ _ _ h hF => ⟨h.2.1, hF⟩
end Jvm.Pilot.@@N@@
namespace Jvm.Pilot.@@N@@
open Jvm Jvm.ClassFile Sem Op Lib Jvm.Free Jvm.Stand Jvm.Pilot.@@N@@.Jvm.D
/-! MADE BY PROGRAM (witnessworld.py) out of the Statement's table words and the real class files: 12 classes; the members and pool entries that the words name. The judged class is class 1, her method 2. -/
namespace start1
open Jvm.ClassFile
def u (s : String) : CpInfo := .utf8 (stringToUtf16 s)
/-- a pool by its gaps: so many unusable entries, then the entry; so many at the end -/
def gap : Nat → List CpInfo → List CpInfo
  | 0, r => r
  | n + 1, r => .unusable :: gap n r
def poolList (es : List (Nat × CpInfo)) (last : Nat) : List CpInfo := es.foldr (fun e r => gap e.1 (e.2 :: r)) (gap last [])
def pool (es : List (Nat × CpInfo)) (last : Nat) : Array CpInfo := ⟨poolList es last⟩
def fileOf (pool : Array CpInfo) (this : Nat) (attrs : Array Attribute := #[]) (ms : Array MethodInfo := #[]) (fl : Nat := 33) (sup : Nat := 0) (ifs : Array Nat := #[]) (fds : Array FieldInfo := #[]) : ClassFile where
  minorVersion := 0
  majorVersion := 65
  constantPool := pool
  accessFlags := fl
  thisClass := this
  superClass := sup
  interfaces := ifs
  fields := fds
  methods := ms
  attributes := attrs
def plain (name : String) (sup : Option ClassId) : Class where
  name := name
  kind := .ordinary
  loader := none
  accessFlags := 33
  super := sup
  interfaces := #[]
  cf := none
  fields := #[]
  methods := #[]
  instanceTypes := #[]
  staticTypes := #[]
  resolved := #[]
  callSites := []
  init := .initialized
  statics := none
  mirror := none

def pool0 : Array CpInfo := pool [(5, u "<init>"), (0, u "()V"), (1, .class_ 10), (1, u "java/lang/Object")] 113

def k0m0 : Method := { name := "<init>", desc := "()V", sig := { parameters := [], returnType := none }, accessFlags := 1, code := none }
/-- java/lang/Object -/
def k0 : Class := { plain "java/lang/Object" none with
  accessFlags := 33
  interfaces := #[]
  cf := some (fileOf pool0 8 #[] #[{ accessFlags := 1, nameIndex := 5, descriptorIndex := 6, attributes := #[] }] 33 0 #[] #[])
  fields := #[]
  methods := #[k0m0]
  instanceTypes := #[]
  staticTypes := #[]
  resolved := Array.replicate 124 none
  statics := none }

def pool1 : Array CpInfo := pool [(2, .class_ 4), (1, u "java/lang/Object"), (0, u "<init>"), (0, u "()V"), (0, .fieldref 8 9), (0, .class_ 10), (0, .nameAndType 11 12), (0, u "com/example/bough3/bough3/model/SecurableType"), (0, u "METASTORE"), (0, u "Lcom/example/bough3/bough3/model/SecurableType;"), (0, .fieldref 8 14), (0, .nameAndType 15 12), (0, u "CATALOG"), (0, .fieldref 8 17), (0, .nameAndType 18 12), (0, u "EXTERNAL_LOCATION"), (0, .fieldref 8 20), (0, .nameAndType 21 12), (0, u "STORAGE_CREDENTIAL"), (0, .fieldref 8 23), (0, .nameAndType 24 12), (0, u "SERVICE_CREDENTIAL"), (0, .fieldref 8 26), (0, .nameAndType 27 12), (0, u "CONNECTION"), (0, .fieldref 8 29), (0, .nameAndType 30 12), (0, u "EXTERNAL_METADATA"), (0, .fieldref 8 32), (0, .nameAndType 33 12), (0, u "SHARE"), (0, .fieldref 8 35), (0, .nameAndType 36 12), (0, u "RECIPIENT"), (0, .fieldref 8 38), (0, .nameAndType 39 12), (0, u "PROVIDER"), (0, .fieldref 8 41), (0, .nameAndType 42 12), (0, u "CLEAN_ROOM"), (0, .fieldref 8 44), (0, .nameAndType 45 12), (0, u "SCHEMA"), (0, .fieldref 8 47), (0, .nameAndType 48 12), (0, u "TABLE"), (0, .fieldref 8 50), (0, .nameAndType 51 12), (0, u "VIEW"), (0, .fieldref 8 53), (0, .nameAndType 54 12), (0, u "MATERIALIZED_VIEW"), (0, .fieldref 8 56), (0, .nameAndType 57 12), (0, u "VOLUME"), (0, .fieldref 8 59), (0, .nameAndType 60 12), (0, u "FUNCTION"), (0, .fieldref 8 62), (0, .nameAndType 63 12), (0, u "MODEL"), (0, .fieldref 8 65), (0, .nameAndType 66 12), (0, u "PROCEDURE"), (0, .integer 2147483647), (0, .methodref 69 70), (0, .class_ 71), (0, .nameAndType 72 73), (0, u "com/example/bough3/bough3/model/SecurableTypeNamesPinLaw"), (0, u "type"), (0, u "(I)Lcom/example/bough3/bough3/model/SecurableType;"), (0, .methodref 8 75), (0, .nameAndType 76 77), (0, u "names"), (0, u "(Lcom/example/bough3/bough3/model/SecurableType;)Z"), (3, u "law"), (0, u "(II)Z")] 2

def k1m0 : Method := { name := "<init>", desc := "()V", sig := { parameters := [], returnType := none }, accessFlags := 2, code := none }
def k1c1 : Code := { maxStack := 2, maxLocals := 1, code := method_2_code, exceptionTable := #[], attributes := #[] }
def k1m1 : Method := { name := "type", desc := "(I)Lcom/example/bough3/bough3/model/SecurableType;", sig := { parameters := [.int], returnType := some (.object "com/example/bough3/bough3/model/SecurableType") }, accessFlags := 10, code := some k1c1 }
def k1c2 : Code := { maxStack := 2, maxLocals := 7, code := code, exceptionTable := #[], attributes := #[] }
def k1m2 : Method := { name := "law", desc := "(II)Z", sig := { parameters := [.int, .int], returnType := some .boolean }, accessFlags := 9, code := some k1c2 }
/-- com/example/bough3/bough3/model/SecurableTypeNamesPinLaw -/
def k1 : Class := { plain "com/example/bough3/bough3/model/SecurableTypeNamesPinLaw" (some 0) with
  accessFlags := 49
  interfaces := #[]
  cf := some (fileOf pool1 69 #[] #[{ accessFlags := 2, nameIndex := 5, descriptorIndex := 6, attributes := #[] }, { accessFlags := 10, nameIndex := 72, descriptorIndex := 73, attributes := #[] }, { accessFlags := 9, nameIndex := 81, descriptorIndex := 82, attributes := #[] }] 49 2 #[] #[])
  fields := #[]
  methods := #[k1m0, k1m1, k1m2]
  instanceTypes := #[]
  staticTypes := #[]
  resolved := Array.replicate 85 none
  statics := none }

def pool2 : Array CpInfo := pool [(1, .class_ 2), (0, u "java/lang/constant/Constable"), (0, .class_ 4), (0, u "java/lang/Object")] 6

/-- java/lang/constant/Constable -/
def k2 : Class := { plain "java/lang/constant/Constable" (some 0) with
  accessFlags := 1537
  interfaces := #[]
  cf := some (fileOf pool2 1 #[] #[] 1537 3 #[] #[])
  fields := #[]
  methods := #[]
  instanceTypes := #[]
  staticTypes := #[]
  resolved := Array.replicate 11 none
  statics := none }

def pool3 : Array CpInfo := pool [(1, .class_ 2), (0, u "java/lang/Comparable"), (0, .class_ 4), (0, u "java/lang/Object")] 7

/-- java/lang/Comparable -/
def k3 : Class := { plain "java/lang/Comparable" (some 0) with
  accessFlags := 1537
  interfaces := #[]
  cf := some (fileOf pool3 1 #[] #[] 1537 3 #[] #[])
  fields := #[]
  methods := #[]
  instanceTypes := #[]
  staticTypes := #[]
  resolved := Array.replicate 12 none
  statics := none }

def pool4 : Array CpInfo := pool [(1, .class_ 2), (0, u "java/io/Serializable"), (0, .class_ 4), (0, u "java/lang/Object")] 2

/-- java/io/Serializable -/
def k4 : Class := { plain "java/io/Serializable" (some 0) with
  accessFlags := 1537
  interfaces := #[]
  cf := some (fileOf pool4 1 #[] #[] 1537 3 #[] #[])
  fields := #[]
  methods := #[]
  instanceTypes := #[]
  staticTypes := #[]
  resolved := Array.replicate 7 none
  statics := none }

def pool5 : Array CpInfo := pool [(2, .class_ 4), (1, u "java/lang/Enum"), (0, u "name"), (0, u "Ljava/lang/String;"), (2, u "ordinal"), (0, u "I"), (1, .class_ 14), (1, u "java/lang/Object"), (4, u "hash"), (86, .class_ 108), (1, u "java/lang/Enum$EnumDesc"), (2, .class_ 112), (0, u "java/lang/constant/Constable"), (0, .class_ 114), (0, u "java/lang/Comparable"), (0, .class_ 116), (0, u "java/io/Serializable")] 87

/-- java/lang/Enum -/
def k5 : Class := { plain "java/lang/Enum" (some 0) with
  accessFlags := 1057
  interfaces := #[2, 3, 4]
  cf := some (fileOf pool5 2 #[.nestMembers #[106]] #[] 1057 12 #[111, 113, 115] #[{ accessFlags := 18, nameIndex := 5, descriptorIndex := 6, attributes := #[] }, { accessFlags := 18, nameIndex := 9, descriptorIndex := 10, attributes := #[] }, { accessFlags := 2, nameIndex := 19, descriptorIndex := 10, attributes := #[] }])
  fields := #[{ name := "name", type := (.object "java/lang/String"), accessFlags := 18, slot := 0, constantValue := 0 }, { name := "ordinal", type := .int, accessFlags := 18, slot := 1, constantValue := 0 }, { name := "hash", type := .int, accessFlags := 2, slot := 2, constantValue := 0 }]
  methods := #[]
  instanceTypes := #[(.object "java/lang/String"), .int, .int]
  staticTypes := #[]
  resolved := Array.replicate 204 none
  statics := none }

def pool6 : Array CpInfo := pool [(1, .class_ 2), (0, u "com/example/bough3/bough3/model/SecurableType"), (2, u "METASTORE"), (0, u "Lcom/example/bough3/bough3/model/SecurableType;"), (2, u "CATALOG"), (2, u "EXTERNAL_LOCATION"), (2, u "STORAGE_CREDENTIAL"), (2, u "SERVICE_CREDENTIAL"), (2, u "CONNECTION"), (2, u "EXTERNAL_METADATA"), (2, u "SHARE"), (2, u "RECIPIENT"), (2, u "PROVIDER"), (2, u "CLEAN_ROOM"), (2, u "SCHEMA"), (2, u "TABLE"), (2, u "VIEW"), (2, u "MATERIALIZED_VIEW"), (2, u "VOLUME"), (2, u "FUNCTION"), (2, u "MODEL"), (2, u "PROCEDURE"), (2, u "$VALUES"), (0, u "[Lcom/example/bough3/bough3/model/SecurableType;"), (6, .class_ 73), (1, u "java/lang/Enum"), (11, u "parent"), (0, .fieldref 1 87), (0, .nameAndType 88 6), (0, u "namedAs"), (2, u "nameParts"), (0, u "I"), (8, u "spelling"), (0, u "Ljava/lang/String;"), (52, u "names"), (0, u "(Lcom/example/bough3/bough3/model/SecurableType;)Z")] 8

def k6c0 : Code := { maxStack := 2, maxLocals := 2, code := prog_55_method_8_code, exceptionTable := #[], attributes := #[] }
def k6m0 : Method := { name := "names", desc := "(Lcom/example/bough3/bough3/model/SecurableType;)Z", sig := { parameters := [(.object "com/example/bough3/bough3/model/SecurableType")], returnType := some .boolean }, accessFlags := 1, code := some k6c0 }
/-- com/example/bough3/bough3/model/SecurableType -/
def k6 : Class := { plain "com/example/bough3/bough3/model/SecurableType" (some 5) with
  accessFlags := 16433
  interfaces := #[]
  cf := some (fileOf pool6 1 #[] #[{ accessFlags := 1, nameIndex := 155, descriptorIndex := 156, attributes := #[] }] 16433 71 #[] #[{ accessFlags := 16409, nameIndex := 5, descriptorIndex := 6, attributes := #[] }, { accessFlags := 16409, nameIndex := 9, descriptorIndex := 6, attributes := #[] }, { accessFlags := 16409, nameIndex := 12, descriptorIndex := 6, attributes := #[] }, { accessFlags := 16409, nameIndex := 15, descriptorIndex := 6, attributes := #[] }, { accessFlags := 16409, nameIndex := 18, descriptorIndex := 6, attributes := #[] }, { accessFlags := 16409, nameIndex := 21, descriptorIndex := 6, attributes := #[] }, { accessFlags := 16409, nameIndex := 24, descriptorIndex := 6, attributes := #[] }, { accessFlags := 16409, nameIndex := 27, descriptorIndex := 6, attributes := #[] }, { accessFlags := 16409, nameIndex := 30, descriptorIndex := 6, attributes := #[] }, { accessFlags := 16409, nameIndex := 33, descriptorIndex := 6, attributes := #[] }, { accessFlags := 16409, nameIndex := 36, descriptorIndex := 6, attributes := #[] }, { accessFlags := 16409, nameIndex := 39, descriptorIndex := 6, attributes := #[] }, { accessFlags := 16409, nameIndex := 42, descriptorIndex := 6, attributes := #[] }, { accessFlags := 16409, nameIndex := 45, descriptorIndex := 6, attributes := #[] }, { accessFlags := 16409, nameIndex := 48, descriptorIndex := 6, attributes := #[] }, { accessFlags := 16409, nameIndex := 51, descriptorIndex := 6, attributes := #[] }, { accessFlags := 16409, nameIndex := 54, descriptorIndex := 6, attributes := #[] }, { accessFlags := 16409, nameIndex := 57, descriptorIndex := 6, attributes := #[] }, { accessFlags := 16409, nameIndex := 60, descriptorIndex := 6, attributes := #[] }, { accessFlags := 18, nameIndex := 85, descriptorIndex := 6, attributes := #[] }, { accessFlags := 18, nameIndex := 88, descriptorIndex := 6, attributes := #[] }, { accessFlags := 18, nameIndex := 91, descriptorIndex := 92, attributes := #[] }, { accessFlags := 18, nameIndex := 101, descriptorIndex := 102, attributes := #[] }, { accessFlags := 4122, nameIndex := 63, descriptorIndex := 64, attributes := #[] }])
  fields := #[{ name := "METASTORE", type := (.object "com/example/bough3/bough3/model/SecurableType"), accessFlags := 16409, slot := 0, constantValue := 0 }, { name := "CATALOG", type := (.object "com/example/bough3/bough3/model/SecurableType"), accessFlags := 16409, slot := 1, constantValue := 0 }, { name := "EXTERNAL_LOCATION", type := (.object "com/example/bough3/bough3/model/SecurableType"), accessFlags := 16409, slot := 2, constantValue := 0 }, { name := "STORAGE_CREDENTIAL", type := (.object "com/example/bough3/bough3/model/SecurableType"), accessFlags := 16409, slot := 3, constantValue := 0 }, { name := "SERVICE_CREDENTIAL", type := (.object "com/example/bough3/bough3/model/SecurableType"), accessFlags := 16409, slot := 4, constantValue := 0 }, { name := "CONNECTION", type := (.object "com/example/bough3/bough3/model/SecurableType"), accessFlags := 16409, slot := 5, constantValue := 0 }, { name := "EXTERNAL_METADATA", type := (.object "com/example/bough3/bough3/model/SecurableType"), accessFlags := 16409, slot := 6, constantValue := 0 }, { name := "SHARE", type := (.object "com/example/bough3/bough3/model/SecurableType"), accessFlags := 16409, slot := 7, constantValue := 0 }, { name := "RECIPIENT", type := (.object "com/example/bough3/bough3/model/SecurableType"), accessFlags := 16409, slot := 8, constantValue := 0 }, { name := "PROVIDER", type := (.object "com/example/bough3/bough3/model/SecurableType"), accessFlags := 16409, slot := 9, constantValue := 0 }, { name := "CLEAN_ROOM", type := (.object "com/example/bough3/bough3/model/SecurableType"), accessFlags := 16409, slot := 10, constantValue := 0 }, { name := "SCHEMA", type := (.object "com/example/bough3/bough3/model/SecurableType"), accessFlags := 16409, slot := 11, constantValue := 0 }, { name := "TABLE", type := (.object "com/example/bough3/bough3/model/SecurableType"), accessFlags := 16409, slot := 12, constantValue := 0 }, { name := "VIEW", type := (.object "com/example/bough3/bough3/model/SecurableType"), accessFlags := 16409, slot := 13, constantValue := 0 }, { name := "MATERIALIZED_VIEW", type := (.object "com/example/bough3/bough3/model/SecurableType"), accessFlags := 16409, slot := 14, constantValue := 0 }, { name := "VOLUME", type := (.object "com/example/bough3/bough3/model/SecurableType"), accessFlags := 16409, slot := 15, constantValue := 0 }, { name := "FUNCTION", type := (.object "com/example/bough3/bough3/model/SecurableType"), accessFlags := 16409, slot := 16, constantValue := 0 }, { name := "MODEL", type := (.object "com/example/bough3/bough3/model/SecurableType"), accessFlags := 16409, slot := 17, constantValue := 0 }, { name := "PROCEDURE", type := (.object "com/example/bough3/bough3/model/SecurableType"), accessFlags := 16409, slot := 18, constantValue := 0 }, { name := "parent", type := (.object "com/example/bough3/bough3/model/SecurableType"), accessFlags := 18, slot := 3, constantValue := 0 }, { name := "namedAs", type := (.object "com/example/bough3/bough3/model/SecurableType"), accessFlags := 18, slot := 4, constantValue := 0 }, { name := "nameParts", type := .int, accessFlags := 18, slot := 5, constantValue := 0 }, { name := "spelling", type := (.object "java/lang/String"), accessFlags := 18, slot := 6, constantValue := 0 }, { name := "$VALUES", type := (.array (.object "com/example/bough3/bough3/model/SecurableType")), accessFlags := 4122, slot := 19, constantValue := 0 }]
  methods := #[k6m0]
  instanceTypes := #[(.object "java/lang/String"), .int, .int, (.object "com/example/bough3/bough3/model/SecurableType"), (.object "com/example/bough3/bough3/model/SecurableType"), .int, (.object "java/lang/String")]
  staticTypes := #[(.object "com/example/bough3/bough3/model/SecurableType"), (.object "com/example/bough3/bough3/model/SecurableType"), (.object "com/example/bough3/bough3/model/SecurableType"), (.object "com/example/bough3/bough3/model/SecurableType"), (.object "com/example/bough3/bough3/model/SecurableType"), (.object "com/example/bough3/bough3/model/SecurableType"), (.object "com/example/bough3/bough3/model/SecurableType"), (.object "com/example/bough3/bough3/model/SecurableType"), (.object "com/example/bough3/bough3/model/SecurableType"), (.object "com/example/bough3/bough3/model/SecurableType"), (.object "com/example/bough3/bough3/model/SecurableType"), (.object "com/example/bough3/bough3/model/SecurableType"), (.object "com/example/bough3/bough3/model/SecurableType"), (.object "com/example/bough3/bough3/model/SecurableType"), (.object "com/example/bough3/bough3/model/SecurableType"), (.object "com/example/bough3/bough3/model/SecurableType"), (.object "com/example/bough3/bough3/model/SecurableType"), (.object "com/example/bough3/bough3/model/SecurableType"), (.object "com/example/bough3/bough3/model/SecurableType"), (.array (.object "com/example/bough3/bough3/model/SecurableType"))]
  resolved := Array.replicate 165 none
  statics := some 0 }

def pool7 : Array CpInfo := pool [(1, u "java/lang/Cloneable"), (0, .class_ 1), (0, u "java/lang/Object"), (0, .class_ 3)] 3

/-- java/lang/Cloneable -/
def k7 : Class := { plain "java/lang/Cloneable" (some 0) with
  accessFlags := 1537
  interfaces := #[]
  cf := some (fileOf pool7 2 #[] #[] 1537 4 #[] #[])
  fields := #[]
  methods := #[]
  instanceTypes := #[]
  staticTypes := #[]
  resolved := Array.replicate 8 none
  statics := none }

/-- the primitive byte -/
def k8 : Class := { plain "byte" none with kind := .primitive 'B', accessFlags := 0x411 }
/-- [B -/
def k9 : Class := { plain "[B" (some 0) with kind := .array 8 .byte, interfaces := #[7, 4], accessFlags := 1041 }

/-- the primitive int -/
def k10 : Class := { plain "int" none with kind := .primitive 'I', accessFlags := 0x411 }
/-- [I -/
def k11 : Class := { plain "[I" (some 0) with kind := .array 10 .int, interfaces := #[7, 4], accessFlags := 1041 }

def heap : Heap := #[{ cls := 6, slots := #[.ref 1, .ref 2, .ref 3, .ref 4, .ref 5, .ref 6, .ref 7, .ref 8, .ref 9, .ref 10, .ref 11, .ref 12, .ref 13, .ref 14, .ref 15, .ref 16, .ref 17, .ref 18, .ref 19, .null], vm := .statics 6 },
  { cls := 6, slots := #[.null, .int 0, .int 0, .null, .ref 1, .int 0, .null], vm := .none },
  { cls := 6, slots := #[.null, .int 1, .int 0, .null, .ref 2, .int 0, .null], vm := .none },
  { cls := 6, slots := #[.null, .int 2, .int 0, .null, .ref 3, .int 0, .null], vm := .none },
  { cls := 6, slots := #[.null, .int 3, .int 0, .null, .ref 4, .int 0, .null], vm := .none },
  { cls := 6, slots := #[.null, .int 4, .int 0, .null, .ref 5, .int 0, .null], vm := .none },
  { cls := 6, slots := #[.null, .int 5, .int 0, .null, .ref 6, .int 0, .null], vm := .none },
  { cls := 6, slots := #[.null, .int 6, .int 0, .null, .ref 7, .int 0, .null], vm := .none },
  { cls := 6, slots := #[.null, .int 7, .int 0, .null, .ref 8, .int 0, .null], vm := .none },
  { cls := 6, slots := #[.null, .int 8, .int 0, .null, .ref 9, .int 0, .null], vm := .none },
  { cls := 6, slots := #[.null, .int 9, .int 0, .null, .ref 10, .int 0, .null], vm := .none },
  { cls := 6, slots := #[.null, .int 10, .int 0, .null, .ref 11, .int 0, .null], vm := .none },
  { cls := 6, slots := #[.null, .int 11, .int 0, .null, .ref 12, .int 0, .null], vm := .none },
  { cls := 6, slots := #[.null, .int 12, .int 0, .null, .ref 13, .int 0, .null], vm := .none },
  { cls := 6, slots := #[.null, .int 13, .int 0, .null, .ref 13, .int 0, .null], vm := .none },
  { cls := 6, slots := #[.null, .int 14, .int 0, .null, .ref 13, .int 0, .null], vm := .none },
  { cls := 6, slots := #[.null, .int 15, .int 0, .null, .ref 16, .int 0, .null], vm := .none },
  { cls := 6, slots := #[.null, .int 16, .int 0, .null, .ref 17, .int 0, .null], vm := .none },
  { cls := 6, slots := #[.null, .int 17, .int 0, .null, .ref 17, .int 0, .null], vm := .none },
  { cls := 6, slots := #[.null, .int 18, .int 0, .null, .ref 17, .int 0, .null], vm := .none }]
def classes : Array Class := #[k0, k1, k2, k3, k4, k5, k6, k7, k8, k9, k10, k11]
def interned : List (Array UInt16 × Addr) := []
def slotsUsed : Nat := 153
def theMethod : MethodId := ⟨1, 2⟩
def args0 : Array Value := #[.int 5, .int 7]
def aboutOver (below : List Frame) : State where
  vm := { classes := classes, interned := interned.toArray }
  heap := heap
  slotsUsed := slotsUsed
  threads := #[{ frames := .invoking theMethod args0 :: below }]
def below0 : List Frame := [.native { method := ⟨0, 0⟩, args := #[] }]
def about1 : State := aboutOver below0
def p0 : Program := .bare "" "" ""
def e0 : Env := launch0.env 0 0 0
theorem w_frames : about1.frames = Frame.invoking theMethod args0 :: below0 := rfl
set_option maxRecDepth 65536 in
theorem w_args : argsFit about1.vm theMethod args0 = true := by decide +kernel
set_option maxRecDepth 65536 in
theorem w_heap : heapFits about1 = true := by decide +kernel
set_option maxRecDepth 65536 in
theorem w_runnable : about1.curStatus? = some .runnable := by decide +kernel
set_option maxRecDepth 65536 in
theorem w_alone : about1.alone = true := by decide +kernel
set_option maxRecDepth 65536 in
theorem w_named : about1.methodNamed? x = some theMethod := by decide +kernel
set_option maxRecDepth 65536 in
theorem w_hears : about1.hears theMethod below0 = true := by decide +kernel
set_option maxRecDepth 65536 in
theorem w_ripe : about1.ripe theMethod args0 below0 = true := by decide +kernel
theorem w_running : about1.status = .running := rfl
set_option maxRecDepth 65536 in
theorem w_room : about1.hasRoom e0.platform room_1 = true :=
  launch0.hasRoom_least _ room_1 (by decide +kernel) (by decide +kernel) (by decide +kernel) (by decide +kernel) (by decide +kernel) (by decide +kernel)
theorem allAtoms_all (ts : List Jvm.Cond) (a : Array Jvm.Value) (st : Jvm.State) : (allAtoms ts).before a st = ts.all (fun c => c.before a st) := by
  induction ts with
  | nil => rfl
  | cons c t ih =>
    show (Jvm.Cond.and c (allAtoms t)).before a st = _
    rw [Jvm.Cond.before_and, ih, List.all_cons]
def words1 : List Jvm.Cond := Jvm.Cond.code x code maxLocals ret :: tables_1
/-- a 'code' word, met by the world's own term for the bytes: nothing is compared byte by byte -/
theorem code_word {y : MethodName} {bytes : ByteArray} {mx : Nat} {rt : Option FieldType} {a : Array Value} {s : State} {m : MethodId} {meth : Method} {c : Code} (h1 : s.methodNamed? y = some m) (h2 : s.vm.method? m = some meth) (h3 : meth.code = some c) (h4 : c.code = bytes)
    (h5 : (c.maxLocals == mx && c.exceptionTable.isEmpty && decide (c.maxStack ≤ mostOperands) && decide (meth.sig.returnType = rt) && !meth.locks && decide (parseMethodDescriptor y.desc = some meth.sig)) = true) : (Jvm.Cond.code y bytes mx rt).before a s = true := by
  simp only [Bool.and_eq_true, beq_iff_eq, Bool.not_eq_true', decide_eq_true_eq] at h5
  obtain ⟨⟨⟨⟨⟨g1, g2⟩, g3⟩, g4⟩, g5⟩, g6⟩ := h5
  simp [Cond.before, Cond.holds, Cond.value, h1, h2, h3, h4, g1, g2, g3, g4, g5, g6]
def isCode : Jvm.Cond → Bool
  | .code _ _ _ _ => true
  | _ => false
theorem all_split {L : List Jvm.Cond} {P : Jvm.Cond → Bool} (h1 : L.all (fun c => isCode c || P c) = true) (h2 : ∀ c ∈ L.filter isCode, P c = true) : L.all P = true := by
  refine List.all_eq_true.mpr fun c hc => ?_
  have h := List.all_eq_true.mp h1 c hc
  rcases Bool.eq_false_or_eq_true (isCode c) with hi | hi
  · exact h2 c (List.mem_filter.mpr ⟨hc, hi⟩)
  · simpa [hi] using h
set_option maxRecDepth 65536 in
theorem w_c0 : (Jvm.Cond.code x code maxLocals ret).before args0 about1 = true := code_word (m := ⟨1, 2⟩) (meth := k1m2) (c := k1c2) (by decide +kernel) rfl rfl rfl (by decide +kernel)
set_option maxRecDepth 65536 in
theorem w_c1 : (Jvm.Cond.code ({ cls := "com/example/bough3/bough3/model/SecurableTypeNamesPinLaw", name := "type", desc := "(I)Lcom/example/bough3/bough3/model/SecurableType;" } : Jvm.MethodName) method_2_code (1 : Nat) (Option.some (Jvm.ClassFile.FieldType.object "com/example/bough3/bough3/model/SecurableType"))).before args0 about1 = true := code_word (m := ⟨1, 1⟩) (meth := k1m1) (c := k1c1) (by decide +kernel) rfl rfl rfl (by decide +kernel)
set_option maxRecDepth 65536 in
theorem w_c2 : (Jvm.Cond.code ({ cls := "com/example/bough3/bough3/model/SecurableType", name := "names", desc := "(Lcom/example/bough3/bough3/model/SecurableType;)Z" } : Jvm.MethodName) prog_55_method_8_code (2 : Nat) (Option.some Jvm.ClassFile.FieldType.boolean)).before args0 about1 = true := code_word (m := ⟨6, 0⟩) (meth := k6m0) (c := k6c0) (by decide +kernel) rfl rfl rfl (by decide +kernel)
def codes1 : List Jvm.Cond := [Jvm.Cond.code x code maxLocals ret, Jvm.Cond.code ({ cls := "com/example/bough3/bough3/model/SecurableTypeNamesPinLaw", name := "type", desc := "(I)Lcom/example/bough3/bough3/model/SecurableType;" } : Jvm.MethodName) method_2_code (1 : Nat) (Option.some (Jvm.ClassFile.FieldType.object "com/example/bough3/bough3/model/SecurableType")), Jvm.Cond.code ({ cls := "com/example/bough3/bough3/model/SecurableType", name := "names", desc := "(Lcom/example/bough3/bough3/model/SecurableType;)Z" } : Jvm.MethodName) prog_55_method_8_code (2 : Nat) (Option.some Jvm.ClassFile.FieldType.boolean)]
set_option maxRecDepth 65536 in
theorem codes_eq : words1.filter isCode = codes1 := rfl
theorem w_codes : ∀ c ∈ words1.filter isCode, c.before args0 about1 = true := by
  rw [codes_eq]
  intro c hc
  simp only [codes1, List.mem_cons, List.not_mem_nil, or_false] at hc
  rcases hc with rfl | rfl | rfl
  · exact w_c0
  · exact w_c1
  · exact w_c2
set_option maxRecDepth 65536 in
theorem w_t1 : (words1.take 24).all (fun c => isCode c || c.before args0 about1) = true := by decide +kernel
set_option maxRecDepth 65536 in
theorem w_t2 : ((words1.drop 24).take 24).all (fun c => isCode c || c.before args0 about1) = true := by decide +kernel
set_option maxRecDepth 65536 in
theorem w_t3 : ((words1.drop 24).drop 24).all (fun c => isCode c || c.before args0 about1) = true := by decide +kernel
theorem w_tables : (allAtoms (Jvm.Cond.code x code maxLocals ret :: tables_1)).before args0 about1 = true := by
  rw [allAtoms_all]
  show words1.all (fun c => c.before args0 about1) = true
  refine all_split ?_ w_codes
  rw [← List.take_append_drop 24 words1, List.all_append, w_t1, ← List.take_append_drop 24 (words1.drop 24), List.all_append, w_t2, w_t3]
  rfl
set_option maxRecDepth 65536 in
theorem w_case : (Jvm.Cond.and given_1 narrow_1).before args0 about1 = true := by decide +kernel
theorem w_applies : (headSpec (Jvm.Cond.code x code maxLocals ret :: tables_1) room_1).applies x e0.platform about1 = true :=
  (Spec.applies_iff w_frames).mpr ⟨w_running, w_runnable, w_alone, w_named, w_hears, w_ripe, w_room, w_tables⟩
theorem atStart : AtStart classFile x code maxLocals ret World_1 tables_1 room_1 Calls_1 rest_1 Pre_1 launch0 p0 e0 about1 theMethod args0 below0 :=
  ⟨lists_1, trivial, launch0.admits_env _ _ _, launch0.least_env, fairChoices_fair.cas, fairChoices_fair.clock, w_frames, w_args, w_heap, w_applies, trivial, trivial, w_case⟩
end start1
theorem witness_1 : WitnessClaimed_1 := ⟨start1.p0, start1.e0, start1.about1, start1.theMethod, start1.args0, start1.below0, start1.atStart⟩
end Jvm.Pilot.@@N@@
