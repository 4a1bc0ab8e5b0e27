import JvmDerived
import JvmDerived.Pilot.@@N@@Statement
import JvmDerived.Pilot.@@N@@Code
set_option linter.unusedVariables false
set_option linter.unusedSimpArgs false
namespace Jvm.RoadKit
theorem own_add32 {a b : Int32} (h1 : -2147483648 ≤ a.toInt + b.toInt) (h2 : a.toInt + b.toInt < 2147483648) : (a + b).toInt = a.toInt + b.toInt := by
  rw [Int32.toInt_add]; exact Int.bmod_eq_of_le (by omega) (by omega)
theorem own_sub32 {a b : Int32} (h1 : -2147483648 ≤ a.toInt - b.toInt) (h2 : a.toInt - b.toInt < 2147483648) : (a - b).toInt = a.toInt - b.toInt := by
  rw [Int32.toInt_sub]; exact Int.bmod_eq_of_le (by omega) (by omega)
theorem own_mul32 {a b : Int32} (h1 : -2147483648 ≤ a.toInt * b.toInt) (h2 : a.toInt * b.toInt < 2147483648) : (a * b).toInt = a.toInt * b.toInt := by
  rw [Int32.toInt_mul]; exact Int.bmod_eq_of_le (by omega) (by omega)
theorem own_add64 {a b : Int64} (h1 : -9223372036854775808 ≤ a.toInt + b.toInt) (h2 : a.toInt + b.toInt < 9223372036854775808) : (a + b).toInt = a.toInt + b.toInt := by
  rw [Int64.toInt_add]; exact Int.bmod_eq_of_le (by omega) (by omega)
theorem own_sub64 {a b : Int64} (h1 : -9223372036854775808 ≤ a.toInt - b.toInt) (h2 : a.toInt - b.toInt < 9223372036854775808) : (a - b).toInt = a.toInt - b.toInt := by
  rw [Int64.toInt_sub]; exact Int.bmod_eq_of_le (by omega) (by omega)
theorem own_mul64 {a b : Int64} (h1 : -9223372036854775808 ≤ a.toInt * b.toInt) (h2 : a.toInt * b.toInt < 9223372036854775808) : (a * b).toInt = a.toInt * b.toInt := by
  rw [Int64.toInt_mul]; exact Int.bmod_eq_of_le (by omega) (by omega)
/-- a mask that isn't negative -/
theorem own_mask32 (x k : Int32) (hk : 0 ≤ k.toInt) : 0 ≤ (x &&& k).toInt ∧ (x &&& k).toInt ≤ k.toInt := by
  have hk' : k.toBitVec.toNat < 2 ^ 31 := by
    have := k.toBitVec.isLt
    have e : k.toInt = k.toBitVec.toInt := rfl
    rw [e, BitVec.toInt_eq_toNat_cond] at hk
    split at hk <;> omega
  have h1 : (x &&& k).toInt = (x.toBitVec &&& k.toBitVec).toInt := rfl
  have h2 : (x.toBitVec &&& k.toBitVec).toNat ≤ k.toBitVec.toNat := by rw [BitVec.toNat_and]; exact Nat.and_le_right
  have e : k.toInt = k.toBitVec.toInt := rfl
  rw [h1, e, BitVec.toInt_eq_toNat_of_lt (by omega), BitVec.toInt_eq_toNat_of_lt (by omega)]; omega
theorem own_mask64 (x k : Int64) (hk : 0 ≤ k.toInt) : 0 ≤ (x &&& k).toInt ∧ (x &&& k).toInt ≤ k.toInt := by
  have hk' : k.toBitVec.toNat < 2 ^ 63 := by
    have := k.toBitVec.isLt
    have e : k.toInt = k.toBitVec.toInt := rfl
    rw [e, BitVec.toInt_eq_toNat_cond] at hk
    split at hk <;> omega
  have h1 : (x &&& k).toInt = (x.toBitVec &&& k.toBitVec).toInt := rfl
  have h2 : (x.toBitVec &&& k.toBitVec).toNat ≤ k.toBitVec.toNat := by rw [BitVec.toNat_and]; exact Nat.and_le_right
  have e : k.toInt = k.toBitVec.toInt := rfl
  rw [h1, e, BitVec.toInt_eq_toNat_of_lt (by omega), BitVec.toInt_eq_toNat_of_lt (by omega)]; omega
end Jvm.RoadKit
namespace Jvm.RoadKit
open Sem ClassFile Op Lib Jvm.Stand Jvm.Free Jvm.LawKit
section Own
variable {p : Program} {l : Launch} {e : Env} {R : Room} {s : State} {m : MethodId} {args : Array Value} {below : List Frame} {meth : Method} {c : Code} {T : State} {locs : List Loc} {cells slots : Nat} {Z : State} {h h' : Heap} {a b : Addr} {ty : FieldType} {n : Nat} {f f' : Nat → Value} {sl : Nat} {v : Value} {ws : List Addr}
/-- an array of n places, place i holds f i -/
def ArF (Z : State) (h : Heap) (a : Addr) (ty : FieldType) (n : Nat) (f : Nat → Value) : Prop := ∃ c : Cell, Arr Z h a c ty ∧ c.slots.size = n ∧ n < 2 ^ 31 ∧ ∀ i, i < n → c.slots[i]? = some (f i)
theorem ArF.lt (F : ArF Z h a ty n f) : a < h.size := by obtain ⟨c, A, -⟩ := F; exact A.lt
theorem ArF.ext (F : ArF Z h a ty n f) (E : Ext h h') : ArF Z h' a ty n f := by obtain ⟨c, A, r⟩ := F; exact ⟨c, A.ext E, r⟩
theorem ArF.other (F : ArF Z h a ty n f) (W : Wr h h' b sl v) (q : a ≠ b) : ArF Z h' a ty n f := by obtain ⟨c, A, r⟩ := F; exact ⟨c, A.other W q, r⟩
theorem ArF.keep (F : ArF Z h a ty n f) (K : Keep h h' ws) (q : a ∉ ws) : ArF Z h' a ty n f := by obtain ⟨c, A, r⟩ := F; exact ⟨c, ⟨K.2.1 a c A.1 q, A.2⟩, r⟩
theorem ArF.congr (F : ArF Z h a ty n f) (q : ∀ i, i < n → f i = f' i) : ArF Z h a ty n f' := by obtain ⟨c, A, r1, r2, r3⟩ := F; exact ⟨c, A, r1, r2, fun i hi => by rw [← q i hi]; exact r3 i hi⟩
theorem ArF.new {k : ClassId} {z : Int32} {dv : Value} (A : Arr Z h a (newA k ty z) ty) (q : ¬ z < 0) (hn : z.toNatClampNeg = n) (hdv : defaultValue ty = dv := by rfl) : ArF Z h a ty n (fun _ => dv) := by
  subst hn hdv
  refine ⟨_, A, sz_new _ _ _, (back32 q).2, fun i hi => ?_⟩
  simp [newA, hi]
theorem own_clamp {j : Int32} {i : Nat} (hj : j.toInt = (i : Int)) : j.toNatClampNeg = i := by
  show j.toInt.toNat = i
  rw [hj]; rfl
theorem own_inb {c : Cell} {j : Int32} {i : Nat} (S : c.slots.size = n) (hj : j.toInt = (i : Int)) (hi : i < n) : ¬ (j < 0 ∨ c.slots.size ≤ j.toNatClampNeg) := by
  rw [own_clamp hj, S]
  rintro (q | q)
  · rw [Int32.lt_iff_toInt_lt, hj] at q
    have : (0 : Int32).toInt = 0 := by decide
    omega
  · omega
theorem ArF.setW {i : Nat} {c : Cell} (A : Arr Z h a c ty) (S : c.slots.size = n) (q3 : n < 2 ^ 31) (H : ∀ k, k < n → c.slots[k]? = some (f k)) (W : Wr h h' a i v) : ArF Z h' a ty n (fun q => if q = i then v else f q) := by
  refine ⟨_, A.same W, by rw [sz_set, S], q3, fun k hk => ?_⟩
  by_cases e : k = i
  · subst e; simp [Cell.setSlot, S, hk]
  · simp only [if_neg e, Cell.setSlot]
    rw [Array.getElem?_setIfInBounds_ne (Ne.symm e)]; exact H k hk
theorem ArF.stI (X : Stand p l e R s m args below meth c T locs cells slots) (hx : p.tables.exec = Jvm.exec) (hZ : Z.Warmed39 s.vm) (eT : T.heap = h) (F : ArF Z h a .int n f) {j x : Int32} {i : Nat} (hj : j.toInt = (i : Int)) (hi : i < n) {g : JFrame} (hg : g.method = m) {rest : List Value} (hs : g.stack = .int x :: .int j :: .ref a :: rest) (hd : decode c.code g.pc = .ok (.iastore, 1)) :
    ∃ T' h', Stand p l e R s m args below meth c T' (locs ++ [⟨a, i⟩]) cells slots ∧ T'.heap = h' ∧ Wr h h' a i (.int x) ∧ ArF Z h' a .int n (fun q => if q = i then .int x else f q) ∧ ∀ target, Steps p.tables e below (T'.setTop { g with pc := g.pc + 1, stack := rest }) target → Steps p.tables e below (T.setTop g) target := by
  obtain ⟨c, A, S, q3, H⟩ := F
  obtain ⟨T', h', X', e', W, st⟩ := Jvm.RoadKit.stI X hx hZ eT A (own_inb S hj hi) hg hs hd
  rw [own_clamp hj] at X' W
  exact ⟨T', h', X', e', W, ArF.setW A S q3 H W, st⟩
theorem ArF.stJ (X : Stand p l e R s m args below meth c T locs cells slots) (hx : p.tables.exec = Jvm.exec) (hZ : Z.Warmed39 s.vm) (eT : T.heap = h) (F : ArF Z h a .long n f) {j : Int32} {x : Int64} {i : Nat} (hj : j.toInt = (i : Int)) (hi : i < n) {g : JFrame} (hg : g.method = m) {rest : List Value} (hs : g.stack = .long x :: .int j :: .ref a :: rest) (hd : decode c.code g.pc = .ok (.lastore, 1)) :
    ∃ T' h', Stand p l e R s m args below meth c T' (locs ++ [⟨a, i⟩]) cells slots ∧ T'.heap = h' ∧ Wr h h' a i (.long x) ∧ ArF Z h' a .long n (fun q => if q = i then .long x else f q) ∧ ∀ target, Steps p.tables e below (T'.setTop { g with pc := g.pc + 1, stack := rest }) target → Steps p.tables e below (T.setTop g) target := by
  obtain ⟨c, A, S, q3, H⟩ := F
  obtain ⟨T', h', X', e', W, st⟩ := Jvm.RoadKit.stJ X hx hZ eT A (own_inb S hj hi) hg hs hd
  rw [own_clamp hj] at X' W
  exact ⟨T', h', X', e', W, ArF.setW A S q3 H W, st⟩
theorem ArF.stB (X : Stand p l e R s m args below meth c T locs cells slots) (hx : p.tables.exec = Jvm.exec) (hZ : Z.Warmed39 s.vm) (eT : T.heap = h) (F : ArF Z h a .byte n f) {j x : Int32} {i : Nat} (hj : j.toInt = (i : Int)) (hi : i < n) {g : JFrame} (hg : g.method = m) {rest : List Value} (hs : g.stack = .int x :: .int j :: .ref a :: rest) (hd : decode c.code g.pc = .ok (.bastore, 1)) :
    ∃ T' h', Stand p l e R s m args below meth c T' (locs ++ [⟨a, i⟩]) cells slots ∧ T'.heap = h' ∧ Wr h h' a i (.int (nar .byte x)) ∧ ArF Z h' a .byte n (fun q => if q = i then .int (nar .byte x) else f q) ∧ ∀ target, Steps p.tables e below (T'.setTop { g with pc := g.pc + 1, stack := rest }) target → Steps p.tables e below (T.setTop g) target := by
  obtain ⟨c, A, S, q3, H⟩ := F
  obtain ⟨T', h', X', e', W, st⟩ := Jvm.RoadKit.stB X hx hZ eT A (own_inb S hj hi) hg hs hd
  rw [own_clamp hj] at X' W
  exact ⟨T', h', X', e', W, ArF.setW A S q3 H W, st⟩
theorem ArF.stC (X : Stand p l e R s m args below meth c T locs cells slots) (hx : p.tables.exec = Jvm.exec) (hZ : Z.Warmed39 s.vm) (eT : T.heap = h) (F : ArF Z h a .char n f) {j x : Int32} {i : Nat} (hj : j.toInt = (i : Int)) (hi : i < n) {g : JFrame} (hg : g.method = m) {rest : List Value} (hs : g.stack = .int x :: .int j :: .ref a :: rest) (hd : decode c.code g.pc = .ok (.castore, 1)) :
    ∃ T' h', Stand p l e R s m args below meth c T' (locs ++ [⟨a, i⟩]) cells slots ∧ T'.heap = h' ∧ Wr h h' a i (.int (nar .char x)) ∧ ArF Z h' a .char n (fun q => if q = i then .int (nar .char x) else f q) ∧ ∀ target, Steps p.tables e below (T'.setTop { g with pc := g.pc + 1, stack := rest }) target → Steps p.tables e below (T.setTop g) target := by
  obtain ⟨c, A, S, q3, H⟩ := F
  obtain ⟨T', h', X', e', W, st⟩ := Jvm.RoadKit.stC X hx hZ eT A (own_inb S hj hi) hg hs hd
  rw [own_clamp hj] at X' W
  exact ⟨T', h', X', e', W, ArF.setW A S q3 H W, st⟩
theorem ArF.ldI (X : Stand p l e R s m args below meth c T locs cells slots) (hx : p.tables.exec = Jvm.exec) (hZ : Z.Warmed39 s.vm) (eT : T.heap = h) (F : ArF Z h a .int n f) {j : Int32} {i : Nat} (hj : j.toInt = (i : Int)) (hi : i < n) {v : Int32} (hv : f i = .int v) {g : JFrame} (hg : g.method = m) {rest : List Value} (hs : g.stack = .int j :: .ref a :: rest) (hd : decode c.code g.pc = .ok (.iaload, 1)) :
    ∀ target, Steps p.tables e below (T.setTop { g with pc := g.pc + 1, stack := .int v :: rest }) target → Steps p.tables e below (T.setTop g) target := by
  obtain ⟨c, A, S, q3, H⟩ := F
  exact X.iaload hx (by rw [eT]; exact A.1) (State.isArrayOf_alike hZ.alike A.2.1) A.2.2 (own_inb S hj hi) (by rw [own_clamp hj, ← hv]; exact H i hi) hg hs hd
theorem ArF.ldJ (X : Stand p l e R s m args below meth c T locs cells slots) (hx : p.tables.exec = Jvm.exec) (hZ : Z.Warmed39 s.vm) (eT : T.heap = h) (F : ArF Z h a .long n f) {j : Int32} {i : Nat} (hj : j.toInt = (i : Int)) (hi : i < n) {v : Int64} (hv : f i = .long v) {g : JFrame} (hg : g.method = m) {rest : List Value} (hs : g.stack = .int j :: .ref a :: rest) (hd : decode c.code g.pc = .ok (.laload, 1)) :
    ∀ target, Steps p.tables e below (T.setTop { g with pc := g.pc + 1, stack := .long v :: rest }) target → Steps p.tables e below (T.setTop g) target := by
  obtain ⟨c, A, S, q3, H⟩ := F
  exact X.laload hx (by rw [eT]; exact A.1) (State.isArrayOf_alike hZ.alike A.2.1) A.2.2 (own_inb S hj hi) (by rw [own_clamp hj, ← hv]; exact H i hi) hg hs hd
theorem ArF.ldB (X : Stand p l e R s m args below meth c T locs cells slots) (hx : p.tables.exec = Jvm.exec) (hZ : Z.Warmed39 s.vm) (eT : T.heap = h) (F : ArF Z h a .byte n f) {j : Int32} {i : Nat} (hj : j.toInt = (i : Int)) (hi : i < n) {v : Int32} (hv : f i = .int v) {g : JFrame} (hg : g.method = m) {rest : List Value} (hs : g.stack = .int j :: .ref a :: rest) (hd : decode c.code g.pc = .ok (.baload, 1)) :
    ∀ target, Steps p.tables e below (T.setTop { g with pc := g.pc + 1, stack := .int v :: rest }) target → Steps p.tables e below (T.setTop g) target := by
  obtain ⟨c, A, S, q3, H⟩ := F
  exact X.baloadBytes hx (by rw [eT]; exact A.1) (State.isArrayOf_alike hZ.alike A.2.1) A.2.2 (own_inb S hj hi) (by rw [own_clamp hj, ← hv]; exact H i hi) hg hs hd
theorem ArF.ldC (X : Stand p l e R s m args below meth c T locs cells slots) (hx : p.tables.exec = Jvm.exec) (hZ : Z.Warmed39 s.vm) (eT : T.heap = h) (F : ArF Z h a .char n f) {j : Int32} {i : Nat} (hj : j.toInt = (i : Int)) (hi : i < n) {v : Int32} (hv : f i = .int v) {g : JFrame} (hg : g.method = m) {rest : List Value} (hs : g.stack = .int j :: .ref a :: rest) (hd : decode c.code g.pc = .ok (.caload, 1)) :
    ∀ target, Steps p.tables e below (T.setTop { g with pc := g.pc + 1, stack := .int v :: rest }) target → Steps p.tables e below (T.setTop g) target := by
  obtain ⟨c, A, S, q3, H⟩ := F
  exact X.caload hx (by rw [eT]; exact A.1) (State.isArrayOf_alike hZ.alike A.2.1) A.2.2 (own_inb S hj hi) (by rw [own_clamp hj, ← hv]; exact H i hi) hg hs hd
theorem ArF.len (X : Stand p l e R s m args below meth c T locs cells slots) (hx : p.tables.exec = Jvm.exec) (hZ : Z.Warmed39 s.vm) (eT : T.heap = h) (F : ArF Z h a ty n f) {g : JFrame} (hg : g.method = m) {rest : List Value} (hs : g.stack = .ref a :: rest) (hd : decode c.code g.pc = .ok (.arraylength, 1)) :
    ∀ target, Steps p.tables e below (T.setTop { g with pc := g.pc + 1, stack := .int (Int32.ofNat n) :: rest }) target → Steps p.tables e below (T.setTop g) target := by
  obtain ⟨c, A, S, q3, H⟩ := F
  have q := X.arraylength hx (by rw [eT]; exact A.1) (State.isArrayOf_alike hZ.alike A.2.1) hg hs hd
  rw [S] at q
  exact q
theorem own_more (X : Stand p l e R s m args below meth c T locs cells slots) {k n : Nat} (h1 : cells ≤ k) (h2 : slots ≤ n) : Stand p l e R s m args below meth c T locs k n :=
  { X with same := X.same.mono h1 h2 }
theorem own_selP {Z s : State} {a0 args : Array Value} {y : MethodName} {k : Nat} (hZ : Z.Warmed39 s.vm) (wi : (Cond.instantiable y.cls k).before a0 Z = true) (wp : (Cond.privateMethod y).before a0 Z = true) (wm : (Cond.instanceMethod y).before a0 Z = true) (hy : y.cls ≠ "java/lang/invoke/MethodHandle" ∧ y.cls ≠ "java/lang/invoke/VarHandle") : (Cond.selects y.cls y y).before args s = true := by
  have wi' : (Cond.instantiable y.cls k).before args s = true := mvT hZ wi
  obtain ⟨c, q, h1, h2, -, h4, -⟩ := Cond.instantiable_spec wi'
  simp only [Bool.or_eq_false_iff] at h4
  exact Jvm.Stand.selects_self_of_private h1 h2 h4.1 (Cond.privateMethod_at (mvP hZ wp (args := args))) (mvT hZ wm) hy
end Own
end Jvm.RoadKit
namespace Jvm.Pilot.@@N@@
open Jvm Jvm.ClassFile Sem Op Lib Jvm.Free Jvm.Stand Jvm.LawKit Jvm.RoadKit Bundle Jvm.Pilot.@@N@@.Jvm.D
theorem d1_0 : decode prog_160_method_1_code 0 = .ok (.aload_n 0, 1) := by decide +kernel
theorem d1_1 : decode prog_160_method_1_code 1 = .ok (.invokespecial 1, 3) := by decide +kernel
theorem d1_4 : decode prog_160_method_1_code 4 = .ok (.return_, 1) := by decide +kernel
theorem d3_0 : decode prog_160_method_2_code 0 = .ok (.aload_n 0, 1) := by decide +kernel
theorem d3_1 : decode prog_160_method_2_code 1 = .ok (.getfield 7, 3) := by decide +kernel
theorem d3_4 : decode prog_160_method_2_code 4 = .ok (.lconst 0, 1) := by decide +kernel
theorem d3_5 : decode prog_160_method_2_code 5 = .ok (.lcmp, 1) := by decide +kernel
theorem d3_6 : decode prog_160_method_2_code 6 = .ok (.ifCond .eq 7, 3) := by decide +kernel
theorem d3_9 : decode prog_160_method_2_code 9 = .ok (.iconst 1, 1) := by decide +kernel
theorem d3_10 : decode prog_160_method_2_code 10 = .ok (.goto 4, 3) := by decide +kernel
theorem d3_13 : decode prog_160_method_2_code 13 = .ok (.iconst 0, 1) := by decide +kernel
theorem d3_14 : decode prog_160_method_2_code 14 = .ok (.ireturn, 1) := by decide +kernel
theorem d4_0 : decode method_3_code 0 = .ok (.iload_n 2, 1) := by decide +kernel
theorem d4_1 : decode method_3_code 1 = .ok (.ifCond .eq 9, 3) := by decide +kernel
theorem d4_4 : decode method_3_code 4 = .ok (.aload_n 1, 1) := by decide +kernel
theorem d4_5 : decode method_3_code 5 = .ok (.iconst 0, 1) := by decide +kernel
theorem d4_6 : decode method_3_code 6 = .ok (.laload, 1) := by decide +kernel
theorem d4_7 : decode method_3_code 7 = .ok (.goto 8, 3) := by decide +kernel
theorem d4_10 : decode method_3_code 10 = .ok (.aload_n 1, 1) := by decide +kernel
theorem d4_11 : decode method_3_code 11 = .ok (.iconst 0, 1) := by decide +kernel
theorem d4_12 : decode method_3_code 12 = .ok (.laload, 1) := by decide +kernel
theorem d4_13 : decode method_3_code 13 = .ok (.lconst 1, 1) := by decide +kernel
theorem d4_14 : decode method_3_code 14 = .ok (.ladd, 1) := by decide +kernel
theorem d4_15 : decode method_3_code 15 = .ok (.lstore 5, 2) := by decide +kernel
theorem d4_17 : decode method_3_code 17 = .ok (.lload 5, 2) := by decide +kernel
theorem d4_19 : decode method_3_code 19 = .ok (.lconst 0, 1) := by decide +kernel
theorem d4_20 : decode method_3_code 20 = .ok (.lcmp, 1) := by decide +kernel
theorem d4_21 : decode method_3_code 21 = .ok (.ifCond .le 15, 3) := by decide +kernel
theorem d4_24 : decode method_3_code 24 = .ok (.lload 5, 2) := by decide +kernel
theorem d4_26 : decode method_3_code 26 = .ok (.lload_n 3, 1) := by decide +kernel
theorem d4_27 : decode method_3_code 27 = .ok (.lcmp, 1) := by decide +kernel
theorem d4_28 : decode method_3_code 28 = .ok (.ifCond .lt 8, 3) := by decide +kernel
theorem d4_31 : decode method_3_code 31 = .ok (.lload 5, 2) := by decide +kernel
theorem d4_33 : decode method_3_code 33 = .ok (.goto 4, 3) := by decide +kernel
theorem d4_36 : decode method_3_code 36 = .ok (.lconst 0, 1) := by decide +kernel
theorem d4_37 : decode method_3_code 37 = .ok (.lstore 7, 2) := by decide +kernel
theorem d4_39 : decode method_3_code 39 = .ok (.aload_n 1, 1) := by decide +kernel
theorem d4_40 : decode method_3_code 40 = .ok (.iconst 0, 1) := by decide +kernel
theorem d4_41 : decode method_3_code 41 = .ok (.lload 7, 2) := by decide +kernel
theorem d4_43 : decode method_3_code 43 = .ok (.lconst 0, 1) := by decide +kernel
theorem d4_44 : decode method_3_code 44 = .ok (.lcmp, 1) := by decide +kernel
theorem d4_45 : decode method_3_code 45 = .ok (.ifCond .ne 8, 3) := by decide +kernel
theorem d4_48 : decode method_3_code 48 = .ok (.lload 5, 2) := by decide +kernel
theorem d4_50 : decode method_3_code 50 = .ok (.goto 4, 3) := by decide +kernel
theorem d4_53 : decode method_3_code 53 = .ok (.lconst 0, 1) := by decide +kernel
theorem d4_54 : decode method_3_code 54 = .ok (.lastore, 1) := by decide +kernel
theorem d4_55 : decode method_3_code 55 = .ok (.aload_n 0, 1) := by decide +kernel
theorem d4_56 : decode method_3_code 56 = .ok (.iload_n 2, 1) := by decide +kernel
theorem d4_57 : decode method_3_code 57 = .ok (.lload_n 3, 1) := by decide +kernel
theorem d4_58 : decode method_3_code 58 = .ok (.invokevirtual 20, 3) := by decide +kernel
theorem d4_61 : decode method_3_code 61 = .ok (.lstore 9, 2) := by decide +kernel
theorem d4_63 : decode method_3_code 63 = .ok (.lload 9, 2) := by decide +kernel
theorem d4_65 : decode method_3_code 65 = .ok (.lload 7, 2) := by decide +kernel
theorem d4_67 : decode method_3_code 67 = .ok (.lcmp, 1) := by decide +kernel
theorem d4_68 : decode method_3_code 68 = .ok (.ifCond .ne 27, 3) := by decide +kernel
theorem d4_71 : decode method_3_code 71 = .ok (.aload_n 0, 1) := by decide +kernel
theorem d4_72 : decode method_3_code 72 = .ok (.invokevirtual 10, 3) := by decide +kernel
theorem d4_75 : decode method_3_code 75 = .ok (.aload_n 1, 1) := by decide +kernel
theorem d4_76 : decode method_3_code 76 = .ok (.iconst 0, 1) := by decide +kernel
theorem d4_77 : decode method_3_code 77 = .ok (.laload, 1) := by decide +kernel
theorem d4_78 : decode method_3_code 78 = .ok (.lconst 0, 1) := by decide +kernel
theorem d4_79 : decode method_3_code 79 = .ok (.lcmp, 1) := by decide +kernel
theorem d4_80 : decode method_3_code 80 = .ok (.ifCond .eq 7, 3) := by decide +kernel
theorem d4_83 : decode method_3_code 83 = .ok (.iconst 1, 1) := by decide +kernel
theorem d4_84 : decode method_3_code 84 = .ok (.goto 4, 3) := by decide +kernel
theorem d4_87 : decode method_3_code 87 = .ok (.iconst 0, 1) := by decide +kernel
theorem d4_88 : decode method_3_code 88 = .ok (.if_icmp .ne 7, 3) := by decide +kernel
theorem d4_91 : decode method_3_code 91 = .ok (.iconst 1, 1) := by decide +kernel
theorem d4_92 : decode method_3_code 92 = .ok (.goto 4, 3) := by decide +kernel
theorem d4_96 : decode method_3_code 96 = .ok (.ireturn, 1) := by decide +kernel
theorem d5_0 : decode prog_160_method_3_code 0 = .ok (.iload_n 1, 1) := by decide +kernel
theorem d5_1 : decode prog_160_method_3_code 1 = .ok (.ifCond .ne 13, 3) := by decide +kernel
theorem d5_4 : decode prog_160_method_3_code 4 = .ok (.aload_n 0, 1) := by decide +kernel
theorem d5_5 : decode prog_160_method_3_code 5 = .ok (.dup, 1) := by decide +kernel
theorem d5_6 : decode prog_160_method_3_code 6 = .ok (.getfield 7, 3) := by decide +kernel
theorem d5_9 : decode prog_160_method_3_code 9 = .ok (.lconst 1, 1) := by decide +kernel
theorem d5_10 : decode prog_160_method_3_code 10 = .ok (.ladd, 1) := by decide +kernel
theorem d5_11 : decode prog_160_method_3_code 11 = .ok (.putfield 7, 3) := by decide +kernel
theorem d5_14 : decode prog_160_method_3_code 14 = .ok (.aload_n 0, 1) := by decide +kernel
theorem d5_15 : decode prog_160_method_3_code 15 = .ok (.getfield 7, 3) := by decide +kernel
theorem d5_18 : decode prog_160_method_3_code 18 = .ok (.lstore 4, 2) := by decide +kernel
theorem d5_20 : decode prog_160_method_3_code 20 = .ok (.lload 4, 2) := by decide +kernel
theorem d5_22 : decode prog_160_method_3_code 22 = .ok (.lconst 0, 1) := by decide +kernel
theorem d5_23 : decode prog_160_method_3_code 23 = .ok (.lcmp, 1) := by decide +kernel
theorem d5_24 : decode prog_160_method_3_code 24 = .ok (.ifCond .eq 10, 3) := by decide +kernel
theorem d5_27 : decode prog_160_method_3_code 27 = .ok (.lload 4, 2) := by decide +kernel
theorem d5_29 : decode prog_160_method_3_code 29 = .ok (.lload_n 2, 1) := by decide +kernel
theorem d5_30 : decode prog_160_method_3_code 30 = .ok (.lcmp, 1) := by decide +kernel
theorem d5_31 : decode prog_160_method_3_code 31 = .ok (.ifCond .ge 5, 3) := by decide +kernel
theorem d5_34 : decode prog_160_method_3_code 34 = .ok (.lconst 0, 1) := by decide +kernel
theorem d5_35 : decode prog_160_method_3_code 35 = .ok (.lreturn, 1) := by decide +kernel
theorem d5_36 : decode prog_160_method_3_code 36 = .ok (.aload_n 0, 1) := by decide +kernel
theorem d5_37 : decode prog_160_method_3_code 37 = .ok (.lconst 0, 1) := by decide +kernel
theorem d5_38 : decode prog_160_method_3_code 38 = .ok (.putfield 7, 3) := by decide +kernel
theorem d5_41 : decode prog_160_method_3_code 41 = .ok (.lload 4, 2) := by decide +kernel
theorem d5_43 : decode prog_160_method_3_code 43 = .ok (.lreturn, 1) := by decide +kernel
theorem pn_0 : plainName "tidegate/operator/FilterOperator$Drops" = true := by first | (simp [plainName, overriddenIn]; done) | decide +kernel
theorem pn_1 : plainName "tidegate/operator/DropsCountPinLaw" = true := by first | (simp [plainName, overriddenIn]; done) | decide +kernel
theorem pd_0 : parseMethodDescriptor "(ZJ)J" = some ⟨[.boolean, .long], some .long⟩ := by decide +kernel
theorem pd_1 : parseMethodDescriptor "()Z" = some ⟨[], some .boolean⟩ := by decide +kernel
theorem pd_2 : parseMethodDescriptor "()V" = some ⟨[], none⟩ := by decide +kernel
theorem pd_3 : parseMethodDescriptor "(Ltidegate/operator/FilterOperator$Drops;[JZJ)Z" = some ⟨[(.object "tidegate/operator/FilterOperator$Drops"), (.array .long), .boolean, .long], some .boolean⟩ := by decide +kernel

def own_pend (n : Int64) (k : Int32) : Int64 := if k = 0 then n + 1 else n
def own_got (p o : Int64) : Int64 := if p = 0 then 0 else if p < o then 0 else p
def own_left (p o : Int64) : Int64 := if p = 0 then p else if p < o then p else 0
def own_wait (n : Int64) : Int32 := if n = 0 then 0 else 1
def own_in (n : Int64) (k : Int) : Prop := 0 ≤ n.toInt ∧ n.toInt ≤ k
theorem own_wait0 : own_wait 0 = 0 := by decide
theorem own_i64 : (0 : Int64).toInt = 0 ∧ (1 : Int64).toInt = 1 := by decide
theorem own_pend_in {n : Int64} {k : Int} (h : own_in n k) (hk : k ≤ 100) (f : Int32) : own_in (own_pend n f) (k + 1) := by
  obtain ⟨e0, e1⟩ := own_i64
  have m : (n + 1).toInt = n.toInt + 1 := by rw [own_add64] <;> rw [e1] <;> (have := h.1; have := h.2; omega)
  unfold own_in own_pend at *
  split
  · rw [m]; omega
  · omega
theorem own_left_in {p : Int64} {k : Int} (h : own_in p k) (o : Int64) : own_in (own_left p o) k := by
  obtain ⟨e0, e1⟩ := own_i64
  unfold own_in own_left at *
  split
  · exact h
  · split
    · exact h
    · rw [e0]; omega
theorem own_check {p o a b : Int64} {k : Int} (h : own_in p k) (ha : a = if (0 : Int64) < p then (if p < o then (0 : Int64) else p) else (0 : Int64)) (hb : b = if a = (0 : Int64) then p else (0 : Int64)) : own_got p o = a ∧ b = own_left p o := by
  obtain ⟨e0, e1⟩ := own_i64
  unfold own_in at h
  unfold own_got own_left
  by_cases q : p = 0
  · subst q
    rw [if_neg Int64.lt_irrefl] at ha
    subst ha
    rw [if_pos rfl] at hb
    subst hb
    simp
  · have q' : (0 : Int64) < p := by
      rw [Int64.lt_iff_toInt_lt, e0]
      have : p.toInt ≠ 0 := fun z => q (Int64.toInt_inj.mp (by rw [z, e0]))
      omega
    rw [if_pos q'] at ha
    rw [if_neg q, if_neg q]
    by_cases z : p < o
    · rw [if_pos z] at ha
      subst ha
      rw [if_pos rfl] at hb
      rw [if_pos z, if_pos z]
      exact ⟨rfl, hb⟩
    · rw [if_neg z] at ha
      subst ha
      rw [if_neg q] at hb
      rw [if_neg z, if_neg z]
      exact ⟨rfl, hb⟩
theorem ef_rm1 (m : MethodId) (x0 : Addr) : entryFrame m #[(.ref x0)] 1 = mkF m 0 #[.val (.ref x0)] [] := by first | (simp [entryFrame, mkF, argsToLocals, Value.category]; done) | rfl
def Q_rm1 (Z : State) (a1 : Addr) (h0 : Heap) (n0 : Nat) (v : Option Value) (h : Heap) (L : List Loc) : Prop := v = none ∧ Fr n0 L ∧ h = h0
set_option maxRecDepth 65536 in
set_option maxHeartbeats 40000000 in
theorem rm1 (l : Launch) (Z : State) (a0 : Array Value) (hw : ∀ d ∈ tables_1, d.before a0 Z = true) (ws : List Jvm.Cond) (a1 : Addr) (h0 : Heap) (n0 : Nat) (Z0 : n0 ≤ h0.size)  :
    MetFree l (⟨"tidegate/operator/FilterOperator$Drops", "<init>", "()V"⟩ : MethodName) (head1 (Jvm.Cond.code (⟨"tidegate/operator/FilterOperator$Drops", "<init>", "()V"⟩ : MethodName) prog_160_method_1_code 1 none :: ws) ({ frames := 1, cells := 0, slots := 0, locals := 12 } : Room)) (fun a U => a = #[(.ref a1)] ∧ Z.Warmed39 U.vm ∧ U.heap = h0) (fun _ _ _ _ _ => True) (fun _ U o U' => ∃ v L, o = .returned v ∧ Q_rm1 Z a1 h0 n0 v U'.heap L ∧ FrameEnd U o U' L ({ frames := 1, cells := 0, slots := 0, locals := 12 } : Room).cells ({ frames := 1, cells := 0, slots := 0, locals := 12 } : Room).slots) := by
  refine MetFree.of_bodySF (plainFor_of_name pn_0) hisR ?_
  intro p e s m args below meth c s₁ Bd hml0 hP hK
  obtain ⟨rfl, hZ, hh⟩ := hP
  have hx := Bd.exec
  have hby := Bd.bytes
  have hml : c.maxLocals = 1 := hml0
  have hown : s.vm.findClass "tidegate/operator/FilterOperator$Drops" = some m.cls := findClass_of_methodNamed Bd.named
  have hnm := (name_of_methodNamed Bd.named Bd.method).1
  have X0 : Stand p l e ({ frames := 1, cells := 0, slots := 0, locals := 12 } : Room) s m #[(.ref a1)] below meth c s₁ [] 0 0 := Stand.of_body Bd
  have e0 : s₁.heap = h0 := by rw [← hh, Bd.state]; rfl
  have N0 := Fr.nil n0
  have pre0 : ∀ t, Steps p.tables e below (s₁.setTop (mkF m 0 #[.val (.ref a1)] [])) t → Steps p.tables e below (s₁.setTop (entryFrame m #[(.ref a1)] 1)) t := fun t k => castTop (ef_rm1 m a1) k
  have S1 : ∀ t, Steps p.tables e below (s₁.setTop (mkF m 1 #[.val (.ref a1)] [(.ref a1)])) t → Steps p.tables e below (s₁.setTop (mkF m 0 #[.val (.ref a1)] [])) t := by
    intro t kt
    show Steps p.tables e below (s₁.setTop (mkF m 0 #[.val (.ref a1)] [])) _
    refine XS.aloadN X0.here hx rfl (hb hby d1_0) rfl rfl ?_
    exact kt
  obtain ⟨T2, X2, e2, st2⟩ := initO X0 hx hZ hown (hw _ (List.mem_of_getElem? (i := 6) rfl)) (hw _ (List.mem_of_getElem? (i := 7) rfl)) (hw _ (List.mem_of_getElem? (i := 8) rfl)) e0 (g := (mkF m 1 #[.val (.ref a1)] [(.ref a1)])) rfl (by rw [hml]; rfl) rfl (hb hby d1_1) (by decide) (W := 0) (by show 2 * 0 + _ ≤ _; exact Nat.le_of_eq rfl) (by decide)
  have C3 : ∀ t, Steps p.tables e below (T2.setTop (mkF m 4 #[.val (.ref a1)] [])) t → Steps p.tables e below (s₁.setTop (mkF m 0 #[.val (.ref a1)] [])) t := (fun t k => (S1 t (st2 t k)))
  obtain ⟨fs, hr, hrun, hended, hW, hsame⟩ := X2.leave (v := none) (fun _ => rfl)
  refine ⟨_, _, pre0 _ (C3 _ ?_), hrun, hended, _, _, rfl, ?_, ⟨_, rfl⟩, hW, hsame.mono (by decide) (by decide)⟩
  · exact X2.returnOut hx Bd.returns (hb hby d1_4) hr
  · show Q_rm1 Z a1 h0 n0 _ T2.heap _
    rw [e2]
    exact ⟨rfl, N0, rfl⟩
theorem ef_rm3 (m : MethodId) (x0 : Addr) : entryFrame m #[(.ref x0)] 1 = mkF m 0 #[.val (.ref x0)] [] := by first | (simp [entryFrame, mkF, argsToLocals, Value.category]; done) | rfl
def Q_rm3 (Z : State) (a1 : Addr) (n1 : Int64) (h0 : Heap) (n0 : Nat) (v : Option Value) (h : Heap) (L : List Loc) : Prop := v = some (.int (own_wait n1)) ∧ Fr n0 L ∧ h = h0
set_option maxRecDepth 65536 in
set_option maxHeartbeats 40000000 in
theorem rm3 (l : Launch) (Z : State) (a0 : Array Value) (hw : ∀ d ∈ tables_1, d.before a0 Z = true) (ws : List Jvm.Cond) (a1 : Addr) (n1 : Int64) (h0 : Heap) (n0 : Nat) (Z0 : n0 ≤ h0.size) (F4 : Fld Z h0 a1 "tidegate/operator/FilterOperator$Drops" "waiting" "J" (.long n1)) :
    MetFree l (⟨"tidegate/operator/FilterOperator$Drops", "waiting", "()Z"⟩ : MethodName) (head1 (Jvm.Cond.code (⟨"tidegate/operator/FilterOperator$Drops", "waiting", "()Z"⟩ : MethodName) prog_160_method_2_code 1 (some .boolean) :: ws) ({ frames := 0, cells := 0, slots := 0, locals := 0 } : Room)) (fun a U => a = #[(.ref a1)] ∧ Z.Warmed39 U.vm ∧ U.heap = h0) (fun _ _ _ _ _ => True) (fun _ U o U' => ∃ v L, o = .returned v ∧ Q_rm3 Z a1 n1 h0 n0 v U'.heap L ∧ FrameEnd U o U' L ({ frames := 0, cells := 0, slots := 0, locals := 0 } : Room).cells ({ frames := 0, cells := 0, slots := 0, locals := 0 } : Room).slots) := by
  refine MetFree.of_bodySF (plainFor_of_name pn_0) hisR ?_
  intro p e s m args below meth c s₁ Bd hml0 hP hK
  obtain ⟨rfl, hZ, hh⟩ := hP
  have hx := Bd.exec
  have hby := Bd.bytes
  have hml : c.maxLocals = 1 := hml0
  have hown : s.vm.findClass "tidegate/operator/FilterOperator$Drops" = some m.cls := findClass_of_methodNamed Bd.named
  have hnm := (name_of_methodNamed Bd.named Bd.method).1
  have X0 : Stand p l e ({ frames := 0, cells := 0, slots := 0, locals := 0 } : Room) s m #[(.ref a1)] below meth c s₁ [] 0 0 := Stand.of_body Bd
  have e0 : s₁.heap = h0 := by rw [← hh, Bd.state]; rfl
  have N0 := Fr.nil n0
  have pre0 : ∀ t, Steps p.tables e below (s₁.setTop (mkF m 0 #[.val (.ref a1)] [])) t → Steps p.tables e below (s₁.setTop (entryFrame m #[(.ref a1)] 1)) t := fun t k => castTop (ef_rm3 m a1) k
  have S5 : ∀ t, Steps p.tables e below (s₁.setTop (mkF m 1 #[.val (.ref a1)] [(.ref a1)])) t → Steps p.tables e below (s₁.setTop (mkF m 0 #[.val (.ref a1)] [])) t := by
    intro t kt
    show Steps p.tables e below (s₁.setTop (mkF m 0 #[.val (.ref a1)] [])) _
    refine XS.aloadN X0.here hx rfl (hb hby d3_0) rfl rfl ?_
    exact kt
  obtain ⟨T6, X6, e6, st6⟩ := getF X0 hx hZ hown (host := "") (Or.inl (hw _ (List.mem_of_getElem? (i := 15) rfl))) Via.refl e0 F4 (g := (mkF m 1 #[.val (.ref a1)] [(.ref a1)])) rfl rfl (hb hby d3_1)
  have S7 : ∀ t, Steps p.tables e below (T6.setTop (mkF m 6 #[.val (.ref a1)] [(.int (lcmpW n1 (0 : Int64)))])) t → Steps p.tables e below (T6.setTop (mkF m 4 #[.val (.ref a1)] [(.long n1)])) t := by
    intro t kt
    show Steps p.tables e below (T6.setTop (mkF m 4 #[.val (.ref a1)] [(.long n1)])) _
    refine XS.lconst X6.here hx rfl (hb hby d3_4) ?_
    show Steps p.tables e below (T6.setTop (mkF m 5 #[.val (.ref a1)] [(.long (0 : Int64)), (.long n1)])) _
    refine XS.lcmp X6.here hx rfl (hb hby d3_5) rfl ?_
    exact kt
  by_cases hc8 : n1 = (0 : Int64)
  · have S9 : ∀ t, Steps p.tables e below (T6.setTop (mkF m 14 #[.val (.ref a1)] [(.int (0 : Int32))])) t → Steps p.tables e below (T6.setTop (mkF m 6 #[.val (.ref a1)] [(.int (lcmpW n1 (0 : Int64)))])) t := by
      intro t kt
      show Steps p.tables e below (T6.setTop (mkF m 6 #[.val (.ref a1)] [(.int (lcmpW n1 (0 : Int64)))])) _
      refine XS.ifYes X6.here hx rfl (pc0 := 6) (pc' := 13) rfl (hb hby d3_6) rfl ((if0 _ _).trans (teq ((lw_eq n1 (0 : Int64)).mpr hc8)).1) (by decide) (by decide) ?_
      show Steps p.tables e below (T6.setTop (mkF m 13 #[.val (.ref a1)] [])) _
      refine XS.iconst X6.here hx rfl (hb hby d3_13) ?_
      exact kt
    have C10 : ∀ t, Steps p.tables e below (T6.setTop (mkF m 14 #[.val (.ref a1)] [(.int (0 : Int32))])) t → Steps p.tables e below (s₁.setTop (mkF m 0 #[.val (.ref a1)] [])) t := (fun t k => (S5 t (st6 t (S7 t (S9 t k)))))
    obtain ⟨fs, hr, hrun, hended, hW, hsame⟩ := X6.leave (v := some (.int (0 : Int32))) (fun h => by rw [Bd.returns] at h; cases h)
    refine ⟨_, _, pre0 _ (C10 _ ?_), hrun, hended, _, _, rfl, ?_, ⟨_, rfl⟩, hW, hsame.mono (by decide) (by decide)⟩
    · exact retN X6 hx (t := .boolean) Bd.returns (by simp) (hb hby d3_14) hr
    · show Q_rm3 Z a1 n1 h0 n0 _ T6.heap _
      rw [e6]
      exact ⟨by simp only [own_wait, if_pos hc8] <;> rfl, N0, rfl⟩
  · have S11 : ∀ t, Steps p.tables e below (T6.setTop (mkF m 14 #[.val (.ref a1)] [(.int (1 : Int32))])) t → Steps p.tables e below (T6.setTop (mkF m 6 #[.val (.ref a1)] [(.int (lcmpW n1 (0 : Int64)))])) t := by
      intro t kt
      show Steps p.tables e below (T6.setTop (mkF m 6 #[.val (.ref a1)] [(.int (lcmpW n1 (0 : Int64)))])) _
      refine XS.ifNo X6.here hx rfl (hb hby d3_6) rfl ((if0 _ _).trans (feq (fun q => hc8 ((lw_eq n1 (0 : Int64)).mp q))).1) ?_
      show Steps p.tables e below (T6.setTop (mkF m 9 #[.val (.ref a1)] [])) _
      refine XS.iconst X6.here hx rfl (hb hby d3_9) ?_
      show Steps p.tables e below (T6.setTop (mkF m 10 #[.val (.ref a1)] [(.int (1 : Int32))])) _
      refine XS.goto X6.here hx rfl (pc0 := 10) (pc' := 14) rfl (hb hby d3_10) (by decide) (by decide) ?_
      exact kt
    have C12 : ∀ t, Steps p.tables e below (T6.setTop (mkF m 14 #[.val (.ref a1)] [(.int (1 : Int32))])) t → Steps p.tables e below (s₁.setTop (mkF m 0 #[.val (.ref a1)] [])) t := (fun t k => (S5 t (st6 t (S7 t (S11 t k)))))
    obtain ⟨fs, hr, hrun, hended, hW, hsame⟩ := X6.leave (v := some (.int (1 : Int32))) (fun h => by rw [Bd.returns] at h; cases h)
    refine ⟨_, _, pre0 _ (C12 _ ?_), hrun, hended, _, _, rfl, ?_, ⟨_, rfl⟩, hW, hsame.mono (by decide) (by decide)⟩
    · exact retN X6 hx (t := .boolean) Bd.returns (by simp) (hb hby d3_14) hr
    · show Q_rm3 Z a1 n1 h0 n0 _ T6.heap _
      rw [e6]
      exact ⟨by simp only [own_wait, if_neg hc8] <;> rfl, N0, rfl⟩
theorem ef_rm5 (m : MethodId) (x0 : Addr) (x1 : Int32) (x2 : Int64) : entryFrame m #[(.ref x0), (.int x1), (.long x2)] 6 = mkF m 0 #[.val (.ref x0), .val (.int x1), .val (.long x2), .second, .unset, .unset] [] := by first | (simp [entryFrame, mkF, argsToLocals, Value.category]; done) | rfl
def Q_rm5 (Z : State) (a1 : Addr) (k1 : Int32) (o1 : Int64) (n1 : Int64) (h0 : Heap) (n0 : Nat) (v : Option Value) (h : Heap) (L : List Loc) : Prop := v = some (.long (own_got (own_pend n1 k1) o1)) ∧ Fr n0 L ∧ Keep h0 h [a1] ∧ Fld Z h a1 "tidegate/operator/FilterOperator$Drops" "waiting" "J" (.long (own_left (own_pend n1 k1) o1))
set_option maxRecDepth 65536 in
set_option maxHeartbeats 40000000 in
theorem rm5 (l : Launch) (Z : State) (a0 : Array Value) (hw : ∀ d ∈ tables_1, d.before a0 Z = true) (ws : List Jvm.Cond) (a1 : Addr) (k1 : Int32) (o1 : Int64) (n1 : Int64) (h0 : Heap) (n0 : Nat) (Z0 : n0 ≤ h0.size) (F13 : Exa Z h0 a1 "tidegate/operator/FilterOperator$Drops") (F14 : Fld Z h0 a1 "tidegate/operator/FilterOperator$Drops" "waiting" "J" (.long n1)) (g_a1 : n0 ≤ a1) :
    MetFree l (⟨"tidegate/operator/FilterOperator$Drops", "count", "(ZJ)J"⟩ : MethodName) (head1 (Jvm.Cond.code (⟨"tidegate/operator/FilterOperator$Drops", "count", "(ZJ)J"⟩ : MethodName) prog_160_method_3_code 6 (some .long) :: ws) ({ frames := 0, cells := 0, slots := 0, locals := 0 } : Room)) (fun a U => a = #[(.ref a1), (.int k1), (.long o1)] ∧ Z.Warmed39 U.vm ∧ U.heap = h0) (fun _ _ _ _ _ => True) (fun _ U o U' => ∃ v L, o = .returned v ∧ Q_rm5 Z a1 k1 o1 n1 h0 n0 v U'.heap L ∧ FrameEnd U o U' L ({ frames := 0, cells := 0, slots := 0, locals := 0 } : Room).cells ({ frames := 0, cells := 0, slots := 0, locals := 0 } : Room).slots) := by
  refine MetFree.of_bodySF (plainFor_of_name pn_0) hisR ?_
  intro p e s m args below meth c s₁ Bd hml0 hP hK
  obtain ⟨rfl, hZ, hh⟩ := hP
  have hx := Bd.exec
  have hby := Bd.bytes
  have hml : c.maxLocals = 6 := hml0
  have hown : s.vm.findClass "tidegate/operator/FilterOperator$Drops" = some m.cls := findClass_of_methodNamed Bd.named
  have hnm := (name_of_methodNamed Bd.named Bd.method).1
  have X0 : Stand p l e ({ frames := 0, cells := 0, slots := 0, locals := 0 } : Room) s m #[(.ref a1), (.int k1), (.long o1)] below meth c s₁ [] 0 0 := Stand.of_body Bd
  have e0 : s₁.heap = h0 := by rw [← hh, Bd.state]; rfl
  have N0 := Fr.nil n0
  have pre0 : ∀ t, Steps p.tables e below (s₁.setTop (mkF m 0 #[.val (.ref a1), .val (.int k1), .val (.long o1), .second, .unset, .unset] [])) t → Steps p.tables e below (s₁.setTop (entryFrame m #[(.ref a1), (.int k1), (.long o1)] 6)) t := fun t k => castTop (ef_rm5 m a1 k1 o1) k
  have S15 : ∀ t, Steps p.tables e below (s₁.setTop (mkF m 1 #[.val (.ref a1), .val (.int k1), .val (.long o1), .second, .unset, .unset] [(.int k1)])) t → Steps p.tables e below (s₁.setTop (mkF m 0 #[.val (.ref a1), .val (.int k1), .val (.long o1), .second, .unset, .unset] [])) t := by
    intro t kt
    show Steps p.tables e below (s₁.setTop (mkF m 0 #[.val (.ref a1), .val (.int k1), .val (.long o1), .second, .unset, .unset] [])) _
    refine XS.iloadN X0.here hx rfl (hb hby d5_0) rfl ?_
    exact kt
  by_cases hc16 : k1 = (0 : Int32)
  · have S17 : ∀ t, Steps p.tables e below (s₁.setTop (mkF m 6 #[.val (.ref a1), .val (.int k1), .val (.long o1), .second, .unset, .unset] [(.ref a1), (.ref a1)])) t → Steps p.tables e below (s₁.setTop (mkF m 1 #[.val (.ref a1), .val (.int k1), .val (.long o1), .second, .unset, .unset] [(.int k1)])) t := by
      intro t kt
      show Steps p.tables e below (s₁.setTop (mkF m 1 #[.val (.ref a1), .val (.int k1), .val (.long o1), .second, .unset, .unset] [(.int k1)])) _
      refine XS.ifNo X0.here hx rfl (hb hby d5_1) rfl ((if0 _ _).trans (teq hc16).2) ?_
      show Steps p.tables e below (s₁.setTop (mkF m 4 #[.val (.ref a1), .val (.int k1), .val (.long o1), .second, .unset, .unset] [])) _
      refine XS.aloadN X0.here hx rfl (hb hby d5_4) rfl rfl ?_
      show Steps p.tables e below (s₁.setTop (mkF m 5 #[.val (.ref a1), .val (.int k1), .val (.long o1), .second, .unset, .unset] [(.ref a1)])) _
      refine XS.dup X0.here hx rfl (hb hby d5_5) rfl rfl ?_
      exact kt
    obtain ⟨T18, X18, e18, st18⟩ := getF X0 hx hZ hown (host := "") (Or.inl (hw _ (List.mem_of_getElem? (i := 15) rfl))) Via.refl e0 F14 (g := (mkF m 6 #[.val (.ref a1), .val (.int k1), .val (.long o1), .second, .unset, .unset] [(.ref a1), (.ref a1)])) rfl rfl (hb hby d5_6)
    have S19 : ∀ t, Steps p.tables e below (T18.setTop (mkF m 11 #[.val (.ref a1), .val (.int k1), .val (.long o1), .second, .unset, .unset] [(.long (n1 + (1 : Int64))), (.ref a1)])) t → Steps p.tables e below (T18.setTop (mkF m 9 #[.val (.ref a1), .val (.int k1), .val (.long o1), .second, .unset, .unset] [(.long n1), (.ref a1)])) t := by
      intro t kt
      show Steps p.tables e below (T18.setTop (mkF m 9 #[.val (.ref a1), .val (.int k1), .val (.long o1), .second, .unset, .unset] [(.long n1), (.ref a1)])) _
      refine XS.lconst X18.here hx rfl (hb hby d5_9) ?_
      show Steps p.tables e below (T18.setTop (mkF m 10 #[.val (.ref a1), .val (.int k1), .val (.long o1), .second, .unset, .unset] [(.long (1 : Int64)), (.long n1), (.ref a1)])) _
      refine XS.ladd X18.here hx rfl (hb hby d5_10) rfl ?_
      exact kt
    obtain ⟨T20, h20, X20, e20, W20, st20⟩ := putF X18 hx hZ hown (host := "") (Or.inl (hw _ (List.mem_of_getElem? (i := 15) rfl))) Via.refl e18 F14 F13 (Or.inl (hw _ (List.mem_of_getElem? (i := 16) rfl))) (hw _ (List.mem_of_getElem? (i := 1) rfl)) (ty := .long) (by decide) rfl rfl (g := (mkF m 11 #[.val (.ref a1), .val (.int k1), .val (.long o1), .second, .unset, .unset] [(.long (n1 + (1 : Int64))), (.ref a1)])) rfl rfl (hb hby d5_11)
    have z21 : n0 ≤ h20.size := Nat.le_trans Z0 (Keep.of_wr W20).1
    have N22 := Fr.snoc X20 N0 g_a1
    have Fw20 := F14.same W20
    have S23 : ∀ t, Steps p.tables e below (T20.setTop (mkF m 15 #[.val (.ref a1), .val (.int k1), .val (.long o1), .second, .unset, .unset] [(.ref a1)])) t → Steps p.tables e below (T20.setTop (mkF m 14 #[.val (.ref a1), .val (.int k1), .val (.long o1), .second, .unset, .unset] [])) t := by
      intro t kt
      show Steps p.tables e below (T20.setTop (mkF m 14 #[.val (.ref a1), .val (.int k1), .val (.long o1), .second, .unset, .unset] [])) _
      refine XS.aloadN X20.here hx rfl (hb hby d5_14) rfl rfl ?_
      exact kt
    obtain ⟨T24, X24, e24, st24⟩ := getF X20 hx hZ hown (host := "") (Or.inl (hw _ (List.mem_of_getElem? (i := 15) rfl))) Via.refl e20 Fw20 (g := (mkF m 15 #[.val (.ref a1), .val (.int k1), .val (.long o1), .second, .unset, .unset] [(.ref a1)])) rfl rfl (hb hby d5_15)
    have S25 : ∀ t, Steps p.tables e below (T24.setTop (mkF m 24 #[.val (.ref a1), .val (.int k1), .val (.long o1), .second, .val (.long (n1 + (1 : Int64))), .second] [(.int (lcmpW (n1 + (1 : Int64)) (0 : Int64)))])) t → Steps p.tables e below (T24.setTop (mkF m 18 #[.val (.ref a1), .val (.int k1), .val (.long o1), .second, .unset, .unset] [(.long (n1 + (1 : Int64)))])) t := by
      intro t kt
      show Steps p.tables e below (T24.setTop (mkF m 18 #[.val (.ref a1), .val (.int k1), .val (.long o1), .second, .unset, .unset] [(.long (n1 + (1 : Int64)))])) _
      refine XS.lstore X24.here hx rfl (hb hby d5_18) rfl (l' := #[.val (.ref a1), .val (.int k1), .val (.long o1), .second, .val (.long (n1 + (1 : Int64))), .second]) rfl ?_
      show Steps p.tables e below (T24.setTop (mkF m 20 #[.val (.ref a1), .val (.int k1), .val (.long o1), .second, .val (.long (n1 + (1 : Int64))), .second] [])) _
      refine XS.lload X24.here hx rfl (hb hby d5_20) rfl ?_
      show Steps p.tables e below (T24.setTop (mkF m 22 #[.val (.ref a1), .val (.int k1), .val (.long o1), .second, .val (.long (n1 + (1 : Int64))), .second] [(.long (n1 + (1 : Int64)))])) _
      refine XS.lconst X24.here hx rfl (hb hby d5_22) ?_
      show Steps p.tables e below (T24.setTop (mkF m 23 #[.val (.ref a1), .val (.int k1), .val (.long o1), .second, .val (.long (n1 + (1 : Int64))), .second] [(.long (0 : Int64)), (.long (n1 + (1 : Int64)))])) _
      refine XS.lcmp X24.here hx rfl (hb hby d5_23) rfl ?_
      exact kt
    by_cases hc26 : (n1 + (1 : Int64)) = (0 : Int64)
    · have S27 : ∀ t, Steps p.tables e below (T24.setTop (mkF m 35 #[.val (.ref a1), .val (.int k1), .val (.long o1), .second, .val (.long (n1 + (1 : Int64))), .second] [(.long (0 : Int64))])) t → Steps p.tables e below (T24.setTop (mkF m 24 #[.val (.ref a1), .val (.int k1), .val (.long o1), .second, .val (.long (n1 + (1 : Int64))), .second] [(.int (lcmpW (n1 + (1 : Int64)) (0 : Int64)))])) t := by
        intro t kt
        show Steps p.tables e below (T24.setTop (mkF m 24 #[.val (.ref a1), .val (.int k1), .val (.long o1), .second, .val (.long (n1 + (1 : Int64))), .second] [(.int (lcmpW (n1 + (1 : Int64)) (0 : Int64)))])) _
        refine XS.ifYes X24.here hx rfl (pc0 := 24) (pc' := 34) rfl (hb hby d5_24) rfl ((if0 _ _).trans (teq ((lw_eq (n1 + (1 : Int64)) (0 : Int64)).mpr hc26)).1) (by decide) (by decide) ?_
        show Steps p.tables e below (T24.setTop (mkF m 34 #[.val (.ref a1), .val (.int k1), .val (.long o1), .second, .val (.long (n1 + (1 : Int64))), .second] [])) _
        refine XS.lconst X24.here hx rfl (hb hby d5_34) ?_
        exact kt
      have C28 : ∀ t, Steps p.tables e below (T24.setTop (mkF m 35 #[.val (.ref a1), .val (.int k1), .val (.long o1), .second, .val (.long (n1 + (1 : Int64))), .second] [(.long (0 : Int64))])) t → Steps p.tables e below (s₁.setTop (mkF m 0 #[.val (.ref a1), .val (.int k1), .val (.long o1), .second, .unset, .unset] [])) t := (fun t k => (S15 t (S17 t (st18 t (S19 t (st20 t (S23 t (st24 t (S25 t (S27 t k))))))))))
      obtain ⟨fs, hr, hrun, hended, hW, hsame⟩ := X24.leave (v := some (.long (0 : Int64))) (fun h => by rw [Bd.returns] at h; cases h)
      refine ⟨_, _, pre0 _ (C28 _ ?_), hrun, hended, _, _, rfl, ?_, ⟨_, rfl⟩, hW, hsame.mono (by decide) (by decide)⟩
      · exact retOut X24 hx (t := .long) Bd.returns rfl (Or.inr (Or.inl ⟨rfl, rfl, _, rfl⟩)) (hb hby d5_35) hr
      · show Q_rm5 Z a1 k1 o1 n1 h0 n0 _ T24.heap _
        rw [e24]
        exact ⟨by simp only [own_got, own_pend, if_pos hc16, if_pos hc26], N22, ((Keep.refl h0 [a1]).wr W20 (Or.inl (List.mem_of_getElem? (i := 0) rfl))), by simp only [own_left, own_pend, if_pos hc16, if_pos hc26]; exact Fw20⟩
    · have S29 : ∀ t, Steps p.tables e below (T24.setTop (mkF m 31 #[.val (.ref a1), .val (.int k1), .val (.long o1), .second, .val (.long (n1 + (1 : Int64))), .second] [(.int (lcmpW (n1 + (1 : Int64)) o1))])) t → Steps p.tables e below (T24.setTop (mkF m 24 #[.val (.ref a1), .val (.int k1), .val (.long o1), .second, .val (.long (n1 + (1 : Int64))), .second] [(.int (lcmpW (n1 + (1 : Int64)) (0 : Int64)))])) t := by
        intro t kt
        show Steps p.tables e below (T24.setTop (mkF m 24 #[.val (.ref a1), .val (.int k1), .val (.long o1), .second, .val (.long (n1 + (1 : Int64))), .second] [(.int (lcmpW (n1 + (1 : Int64)) (0 : Int64)))])) _
        refine XS.ifNo X24.here hx rfl (hb hby d5_24) rfl ((if0 _ _).trans (feq (fun q => hc26 ((lw_eq (n1 + (1 : Int64)) (0 : Int64)).mp q))).1) ?_
        show Steps p.tables e below (T24.setTop (mkF m 27 #[.val (.ref a1), .val (.int k1), .val (.long o1), .second, .val (.long (n1 + (1 : Int64))), .second] [])) _
        refine XS.lload X24.here hx rfl (hb hby d5_27) rfl ?_
        show Steps p.tables e below (T24.setTop (mkF m 29 #[.val (.ref a1), .val (.int k1), .val (.long o1), .second, .val (.long (n1 + (1 : Int64))), .second] [(.long (n1 + (1 : Int64)))])) _
        refine XS.lloadN X24.here hx rfl (hb hby d5_29) rfl ?_
        show Steps p.tables e below (T24.setTop (mkF m 30 #[.val (.ref a1), .val (.int k1), .val (.long o1), .second, .val (.long (n1 + (1 : Int64))), .second] [(.long o1), (.long (n1 + (1 : Int64)))])) _
        refine XS.lcmp X24.here hx rfl (hb hby d5_30) rfl ?_
        exact kt
      by_cases hc30 : (n1 + (1 : Int64)) < o1
      · have S31 : ∀ t, Steps p.tables e below (T24.setTop (mkF m 35 #[.val (.ref a1), .val (.int k1), .val (.long o1), .second, .val (.long (n1 + (1 : Int64))), .second] [(.long (0 : Int64))])) t → Steps p.tables e below (T24.setTop (mkF m 31 #[.val (.ref a1), .val (.int k1), .val (.long o1), .second, .val (.long (n1 + (1 : Int64))), .second] [(.int (lcmpW (n1 + (1 : Int64)) o1))])) t := by
          intro t kt
          show Steps p.tables e below (T24.setTop (mkF m 31 #[.val (.ref a1), .val (.int k1), .val (.long o1), .second, .val (.long (n1 + (1 : Int64))), .second] [(.int (lcmpW (n1 + (1 : Int64)) o1))])) _
          refine XS.ifNo X24.here hx rfl (hb hby d5_31) rfl ((if0 _ _).trans (tlt ((lw_lt (n1 + (1 : Int64)) o1).mpr hc30)).2.1) ?_
          show Steps p.tables e below (T24.setTop (mkF m 34 #[.val (.ref a1), .val (.int k1), .val (.long o1), .second, .val (.long (n1 + (1 : Int64))), .second] [])) _
          refine XS.lconst X24.here hx rfl (hb hby d5_34) ?_
          exact kt
        have C32 : ∀ t, Steps p.tables e below (T24.setTop (mkF m 35 #[.val (.ref a1), .val (.int k1), .val (.long o1), .second, .val (.long (n1 + (1 : Int64))), .second] [(.long (0 : Int64))])) t → Steps p.tables e below (s₁.setTop (mkF m 0 #[.val (.ref a1), .val (.int k1), .val (.long o1), .second, .unset, .unset] [])) t := (fun t k => (S15 t (S17 t (st18 t (S19 t (st20 t (S23 t (st24 t (S25 t (S29 t (S31 t k)))))))))))
        obtain ⟨fs, hr, hrun, hended, hW, hsame⟩ := X24.leave (v := some (.long (0 : Int64))) (fun h => by rw [Bd.returns] at h; cases h)
        refine ⟨_, _, pre0 _ (C32 _ ?_), hrun, hended, _, _, rfl, ?_, ⟨_, rfl⟩, hW, hsame.mono (by decide) (by decide)⟩
        · exact retOut X24 hx (t := .long) Bd.returns rfl (Or.inr (Or.inl ⟨rfl, rfl, _, rfl⟩)) (hb hby d5_35) hr
        · show Q_rm5 Z a1 k1 o1 n1 h0 n0 _ T24.heap _
          rw [e24]
          exact ⟨by simp only [own_got, own_pend, if_pos hc16, if_neg hc26, if_pos hc30], N22, ((Keep.refl h0 [a1]).wr W20 (Or.inl (List.mem_of_getElem? (i := 0) rfl))), by simp only [own_left, own_pend, if_pos hc16, if_neg hc26, if_pos hc30]; exact Fw20⟩
      · have S33 : ∀ t, Steps p.tables e below (T24.setTop (mkF m 38 #[.val (.ref a1), .val (.int k1), .val (.long o1), .second, .val (.long (n1 + (1 : Int64))), .second] [(.long (0 : Int64)), (.ref a1)])) t → Steps p.tables e below (T24.setTop (mkF m 31 #[.val (.ref a1), .val (.int k1), .val (.long o1), .second, .val (.long (n1 + (1 : Int64))), .second] [(.int (lcmpW (n1 + (1 : Int64)) o1))])) t := by
          intro t kt
          show Steps p.tables e below (T24.setTop (mkF m 31 #[.val (.ref a1), .val (.int k1), .val (.long o1), .second, .val (.long (n1 + (1 : Int64))), .second] [(.int (lcmpW (n1 + (1 : Int64)) o1))])) _
          refine XS.ifYes X24.here hx rfl (pc0 := 31) (pc' := 36) rfl (hb hby d5_31) rfl ((if0 _ _).trans (flt (fun q => hc30 ((lw_lt (n1 + (1 : Int64)) o1).mp q))).2.1) (by decide) (by decide) ?_
          show Steps p.tables e below (T24.setTop (mkF m 36 #[.val (.ref a1), .val (.int k1), .val (.long o1), .second, .val (.long (n1 + (1 : Int64))), .second] [])) _
          refine XS.aloadN X24.here hx rfl (hb hby d5_36) rfl rfl ?_
          show Steps p.tables e below (T24.setTop (mkF m 37 #[.val (.ref a1), .val (.int k1), .val (.long o1), .second, .val (.long (n1 + (1 : Int64))), .second] [(.ref a1)])) _
          refine XS.lconst X24.here hx rfl (hb hby d5_37) ?_
          exact kt
        have f34 := (F13.wr W20)
        obtain ⟨T35, h35, X35, e35, W35, st35⟩ := putF X24 hx hZ hown (host := "") (Or.inl (hw _ (List.mem_of_getElem? (i := 15) rfl))) Via.refl e24 Fw20 f34 (Or.inl (hw _ (List.mem_of_getElem? (i := 16) rfl))) (hw _ (List.mem_of_getElem? (i := 1) rfl)) (ty := .long) (by decide) rfl rfl (g := (mkF m 38 #[.val (.ref a1), .val (.int k1), .val (.long o1), .second, .val (.long (n1 + (1 : Int64))), .second] [(.long (0 : Int64)), (.ref a1)])) rfl rfl (hb hby d5_38)
        have z36 : n0 ≤ h35.size := Nat.le_trans z21 (Keep.of_wr W35).1
        have N37 := Fr.snoc X35 N22 g_a1
        have Fw35 := Fw20.same W35
        have S38 : ∀ t, Steps p.tables e below (T35.setTop (mkF m 43 #[.val (.ref a1), .val (.int k1), .val (.long o1), .second, .val (.long (n1 + (1 : Int64))), .second] [(.long (n1 + (1 : Int64)))])) t → Steps p.tables e below (T35.setTop (mkF m 41 #[.val (.ref a1), .val (.int k1), .val (.long o1), .second, .val (.long (n1 + (1 : Int64))), .second] [])) t := by
          intro t kt
          show Steps p.tables e below (T35.setTop (mkF m 41 #[.val (.ref a1), .val (.int k1), .val (.long o1), .second, .val (.long (n1 + (1 : Int64))), .second] [])) _
          refine XS.lload X35.here hx rfl (hb hby d5_41) rfl ?_
          exact kt
        have C39 : ∀ t, Steps p.tables e below (T35.setTop (mkF m 43 #[.val (.ref a1), .val (.int k1), .val (.long o1), .second, .val (.long (n1 + (1 : Int64))), .second] [(.long (n1 + (1 : Int64)))])) t → Steps p.tables e below (s₁.setTop (mkF m 0 #[.val (.ref a1), .val (.int k1), .val (.long o1), .second, .unset, .unset] [])) t := (fun t k => (S15 t (S17 t (st18 t (S19 t (st20 t (S23 t (st24 t (S25 t (S29 t (S33 t (st35 t (S38 t k)))))))))))))
        obtain ⟨fs, hr, hrun, hended, hW, hsame⟩ := X35.leave (v := some (.long (n1 + (1 : Int64)))) (fun h => by rw [Bd.returns] at h; cases h)
        refine ⟨_, _, pre0 _ (C39 _ ?_), hrun, hended, _, _, rfl, ?_, ⟨_, rfl⟩, hW, hsame.mono (by decide) (by decide)⟩
        · exact retOut X35 hx (t := .long) Bd.returns rfl (Or.inr (Or.inl ⟨rfl, rfl, _, rfl⟩)) (hb hby d5_43) hr
        · show Q_rm5 Z a1 k1 o1 n1 h0 n0 _ T35.heap _
          rw [e35]
          exact ⟨by simp only [own_got, own_pend, if_pos hc16, if_neg hc26, if_neg hc30], N37, (((Keep.refl h0 [a1]).wr W20 (Or.inl (List.mem_of_getElem? (i := 0) rfl))).wr W35 (Or.inl (List.mem_of_getElem? (i := 0) rfl))), by simp only [own_left, own_pend, if_pos hc16, if_neg hc26, if_neg hc30]; exact Fw35⟩
  · have S40 : ∀ t, Steps p.tables e below (s₁.setTop (mkF m 15 #[.val (.ref a1), .val (.int k1), .val (.long o1), .second, .unset, .unset] [(.ref a1)])) t → Steps p.tables e below (s₁.setTop (mkF m 1 #[.val (.ref a1), .val (.int k1), .val (.long o1), .second, .unset, .unset] [(.int k1)])) t := by
      intro t kt
      show Steps p.tables e below (s₁.setTop (mkF m 1 #[.val (.ref a1), .val (.int k1), .val (.long o1), .second, .unset, .unset] [(.int k1)])) _
      refine XS.ifYes X0.here hx rfl (pc0 := 1) (pc' := 14) rfl (hb hby d5_1) rfl ((if0 _ _).trans (feq hc16).2) (by decide) (by decide) ?_
      show Steps p.tables e below (s₁.setTop (mkF m 14 #[.val (.ref a1), .val (.int k1), .val (.long o1), .second, .unset, .unset] [])) _
      refine XS.aloadN X0.here hx rfl (hb hby d5_14) rfl rfl ?_
      exact kt
    obtain ⟨T41, X41, e41, st41⟩ := getF X0 hx hZ hown (host := "") (Or.inl (hw _ (List.mem_of_getElem? (i := 15) rfl))) Via.refl e0 F14 (g := (mkF m 15 #[.val (.ref a1), .val (.int k1), .val (.long o1), .second, .unset, .unset] [(.ref a1)])) rfl rfl (hb hby d5_15)
    have S42 : ∀ t, Steps p.tables e below (T41.setTop (mkF m 24 #[.val (.ref a1), .val (.int k1), .val (.long o1), .second, .val (.long n1), .second] [(.int (lcmpW n1 (0 : Int64)))])) t → Steps p.tables e below (T41.setTop (mkF m 18 #[.val (.ref a1), .val (.int k1), .val (.long o1), .second, .unset, .unset] [(.long n1)])) t := by
      intro t kt
      show Steps p.tables e below (T41.setTop (mkF m 18 #[.val (.ref a1), .val (.int k1), .val (.long o1), .second, .unset, .unset] [(.long n1)])) _
      refine XS.lstore X41.here hx rfl (hb hby d5_18) rfl (l' := #[.val (.ref a1), .val (.int k1), .val (.long o1), .second, .val (.long n1), .second]) rfl ?_
      show Steps p.tables e below (T41.setTop (mkF m 20 #[.val (.ref a1), .val (.int k1), .val (.long o1), .second, .val (.long n1), .second] [])) _
      refine XS.lload X41.here hx rfl (hb hby d5_20) rfl ?_
      show Steps p.tables e below (T41.setTop (mkF m 22 #[.val (.ref a1), .val (.int k1), .val (.long o1), .second, .val (.long n1), .second] [(.long n1)])) _
      refine XS.lconst X41.here hx rfl (hb hby d5_22) ?_
      show Steps p.tables e below (T41.setTop (mkF m 23 #[.val (.ref a1), .val (.int k1), .val (.long o1), .second, .val (.long n1), .second] [(.long (0 : Int64)), (.long n1)])) _
      refine XS.lcmp X41.here hx rfl (hb hby d5_23) rfl ?_
      exact kt
    by_cases hc43 : n1 = (0 : Int64)
    · have S44 : ∀ t, Steps p.tables e below (T41.setTop (mkF m 35 #[.val (.ref a1), .val (.int k1), .val (.long o1), .second, .val (.long n1), .second] [(.long (0 : Int64))])) t → Steps p.tables e below (T41.setTop (mkF m 24 #[.val (.ref a1), .val (.int k1), .val (.long o1), .second, .val (.long n1), .second] [(.int (lcmpW n1 (0 : Int64)))])) t := by
        intro t kt
        show Steps p.tables e below (T41.setTop (mkF m 24 #[.val (.ref a1), .val (.int k1), .val (.long o1), .second, .val (.long n1), .second] [(.int (lcmpW n1 (0 : Int64)))])) _
        refine XS.ifYes X41.here hx rfl (pc0 := 24) (pc' := 34) rfl (hb hby d5_24) rfl ((if0 _ _).trans (teq ((lw_eq n1 (0 : Int64)).mpr hc43)).1) (by decide) (by decide) ?_
        show Steps p.tables e below (T41.setTop (mkF m 34 #[.val (.ref a1), .val (.int k1), .val (.long o1), .second, .val (.long n1), .second] [])) _
        refine XS.lconst X41.here hx rfl (hb hby d5_34) ?_
        exact kt
      have C45 : ∀ t, Steps p.tables e below (T41.setTop (mkF m 35 #[.val (.ref a1), .val (.int k1), .val (.long o1), .second, .val (.long n1), .second] [(.long (0 : Int64))])) t → Steps p.tables e below (s₁.setTop (mkF m 0 #[.val (.ref a1), .val (.int k1), .val (.long o1), .second, .unset, .unset] [])) t := (fun t k => (S15 t (S40 t (st41 t (S42 t (S44 t k))))))
      obtain ⟨fs, hr, hrun, hended, hW, hsame⟩ := X41.leave (v := some (.long (0 : Int64))) (fun h => by rw [Bd.returns] at h; cases h)
      refine ⟨_, _, pre0 _ (C45 _ ?_), hrun, hended, _, _, rfl, ?_, ⟨_, rfl⟩, hW, hsame.mono (by decide) (by decide)⟩
      · exact retOut X41 hx (t := .long) Bd.returns rfl (Or.inr (Or.inl ⟨rfl, rfl, _, rfl⟩)) (hb hby d5_35) hr
      · show Q_rm5 Z a1 k1 o1 n1 h0 n0 _ T41.heap _
        rw [e41]
        exact ⟨by simp only [own_got, own_pend, if_neg hc16, if_pos hc43], N0, (Keep.refl h0 [a1]), by simp only [own_left, own_pend, if_neg hc16, if_pos hc43]; exact F14⟩
    · have S46 : ∀ t, Steps p.tables e below (T41.setTop (mkF m 31 #[.val (.ref a1), .val (.int k1), .val (.long o1), .second, .val (.long n1), .second] [(.int (lcmpW n1 o1))])) t → Steps p.tables e below (T41.setTop (mkF m 24 #[.val (.ref a1), .val (.int k1), .val (.long o1), .second, .val (.long n1), .second] [(.int (lcmpW n1 (0 : Int64)))])) t := by
        intro t kt
        show Steps p.tables e below (T41.setTop (mkF m 24 #[.val (.ref a1), .val (.int k1), .val (.long o1), .second, .val (.long n1), .second] [(.int (lcmpW n1 (0 : Int64)))])) _
        refine XS.ifNo X41.here hx rfl (hb hby d5_24) rfl ((if0 _ _).trans (feq (fun q => hc43 ((lw_eq n1 (0 : Int64)).mp q))).1) ?_
        show Steps p.tables e below (T41.setTop (mkF m 27 #[.val (.ref a1), .val (.int k1), .val (.long o1), .second, .val (.long n1), .second] [])) _
        refine XS.lload X41.here hx rfl (hb hby d5_27) rfl ?_
        show Steps p.tables e below (T41.setTop (mkF m 29 #[.val (.ref a1), .val (.int k1), .val (.long o1), .second, .val (.long n1), .second] [(.long n1)])) _
        refine XS.lloadN X41.here hx rfl (hb hby d5_29) rfl ?_
        show Steps p.tables e below (T41.setTop (mkF m 30 #[.val (.ref a1), .val (.int k1), .val (.long o1), .second, .val (.long n1), .second] [(.long o1), (.long n1)])) _
        refine XS.lcmp X41.here hx rfl (hb hby d5_30) rfl ?_
        exact kt
      by_cases hc47 : n1 < o1
      · have S48 : ∀ t, Steps p.tables e below (T41.setTop (mkF m 35 #[.val (.ref a1), .val (.int k1), .val (.long o1), .second, .val (.long n1), .second] [(.long (0 : Int64))])) t → Steps p.tables e below (T41.setTop (mkF m 31 #[.val (.ref a1), .val (.int k1), .val (.long o1), .second, .val (.long n1), .second] [(.int (lcmpW n1 o1))])) t := by
          intro t kt
          show Steps p.tables e below (T41.setTop (mkF m 31 #[.val (.ref a1), .val (.int k1), .val (.long o1), .second, .val (.long n1), .second] [(.int (lcmpW n1 o1))])) _
          refine XS.ifNo X41.here hx rfl (hb hby d5_31) rfl ((if0 _ _).trans (tlt ((lw_lt n1 o1).mpr hc47)).2.1) ?_
          show Steps p.tables e below (T41.setTop (mkF m 34 #[.val (.ref a1), .val (.int k1), .val (.long o1), .second, .val (.long n1), .second] [])) _
          refine XS.lconst X41.here hx rfl (hb hby d5_34) ?_
          exact kt
        have C49 : ∀ t, Steps p.tables e below (T41.setTop (mkF m 35 #[.val (.ref a1), .val (.int k1), .val (.long o1), .second, .val (.long n1), .second] [(.long (0 : Int64))])) t → Steps p.tables e below (s₁.setTop (mkF m 0 #[.val (.ref a1), .val (.int k1), .val (.long o1), .second, .unset, .unset] [])) t := (fun t k => (S15 t (S40 t (st41 t (S42 t (S46 t (S48 t k)))))))
        obtain ⟨fs, hr, hrun, hended, hW, hsame⟩ := X41.leave (v := some (.long (0 : Int64))) (fun h => by rw [Bd.returns] at h; cases h)
        refine ⟨_, _, pre0 _ (C49 _ ?_), hrun, hended, _, _, rfl, ?_, ⟨_, rfl⟩, hW, hsame.mono (by decide) (by decide)⟩
        · exact retOut X41 hx (t := .long) Bd.returns rfl (Or.inr (Or.inl ⟨rfl, rfl, _, rfl⟩)) (hb hby d5_35) hr
        · show Q_rm5 Z a1 k1 o1 n1 h0 n0 _ T41.heap _
          rw [e41]
          exact ⟨by simp only [own_got, own_pend, if_neg hc16, if_neg hc43, if_pos hc47], N0, (Keep.refl h0 [a1]), by simp only [own_left, own_pend, if_neg hc16, if_neg hc43, if_pos hc47]; exact F14⟩
      · have S50 : ∀ t, Steps p.tables e below (T41.setTop (mkF m 38 #[.val (.ref a1), .val (.int k1), .val (.long o1), .second, .val (.long n1), .second] [(.long (0 : Int64)), (.ref a1)])) t → Steps p.tables e below (T41.setTop (mkF m 31 #[.val (.ref a1), .val (.int k1), .val (.long o1), .second, .val (.long n1), .second] [(.int (lcmpW n1 o1))])) t := by
          intro t kt
          show Steps p.tables e below (T41.setTop (mkF m 31 #[.val (.ref a1), .val (.int k1), .val (.long o1), .second, .val (.long n1), .second] [(.int (lcmpW n1 o1))])) _
          refine XS.ifYes X41.here hx rfl (pc0 := 31) (pc' := 36) rfl (hb hby d5_31) rfl ((if0 _ _).trans (flt (fun q => hc47 ((lw_lt n1 o1).mp q))).2.1) (by decide) (by decide) ?_
          show Steps p.tables e below (T41.setTop (mkF m 36 #[.val (.ref a1), .val (.int k1), .val (.long o1), .second, .val (.long n1), .second] [])) _
          refine XS.aloadN X41.here hx rfl (hb hby d5_36) rfl rfl ?_
          show Steps p.tables e below (T41.setTop (mkF m 37 #[.val (.ref a1), .val (.int k1), .val (.long o1), .second, .val (.long n1), .second] [(.ref a1)])) _
          refine XS.lconst X41.here hx rfl (hb hby d5_37) ?_
          exact kt
        obtain ⟨T51, h51, X51, e51, W51, st51⟩ := putF X41 hx hZ hown (host := "") (Or.inl (hw _ (List.mem_of_getElem? (i := 15) rfl))) Via.refl e41 F14 F13 (Or.inl (hw _ (List.mem_of_getElem? (i := 16) rfl))) (hw _ (List.mem_of_getElem? (i := 1) rfl)) (ty := .long) (by decide) rfl rfl (g := (mkF m 38 #[.val (.ref a1), .val (.int k1), .val (.long o1), .second, .val (.long n1), .second] [(.long (0 : Int64)), (.ref a1)])) rfl rfl (hb hby d5_38)
        have z52 : n0 ≤ h51.size := Nat.le_trans Z0 (Keep.of_wr W51).1
        have N53 := Fr.snoc X51 N0 g_a1
        have Fw51 := F14.same W51
        have S54 : ∀ t, Steps p.tables e below (T51.setTop (mkF m 43 #[.val (.ref a1), .val (.int k1), .val (.long o1), .second, .val (.long n1), .second] [(.long n1)])) t → Steps p.tables e below (T51.setTop (mkF m 41 #[.val (.ref a1), .val (.int k1), .val (.long o1), .second, .val (.long n1), .second] [])) t := by
          intro t kt
          show Steps p.tables e below (T51.setTop (mkF m 41 #[.val (.ref a1), .val (.int k1), .val (.long o1), .second, .val (.long n1), .second] [])) _
          refine XS.lload X51.here hx rfl (hb hby d5_41) rfl ?_
          exact kt
        have C55 : ∀ t, Steps p.tables e below (T51.setTop (mkF m 43 #[.val (.ref a1), .val (.int k1), .val (.long o1), .second, .val (.long n1), .second] [(.long n1)])) t → Steps p.tables e below (s₁.setTop (mkF m 0 #[.val (.ref a1), .val (.int k1), .val (.long o1), .second, .unset, .unset] [])) t := (fun t k => (S15 t (S40 t (st41 t (S42 t (S46 t (S50 t (st51 t (S54 t k)))))))))
        obtain ⟨fs, hr, hrun, hended, hW, hsame⟩ := X51.leave (v := some (.long n1)) (fun h => by rw [Bd.returns] at h; cases h)
        refine ⟨_, _, pre0 _ (C55 _ ?_), hrun, hended, _, _, rfl, ?_, ⟨_, rfl⟩, hW, hsame.mono (by decide) (by decide)⟩
        · exact retOut X51 hx (t := .long) Bd.returns rfl (Or.inr (Or.inl ⟨rfl, rfl, _, rfl⟩)) (hb hby d5_43) hr
        · show Q_rm5 Z a1 k1 o1 n1 h0 n0 _ T51.heap _
          rw [e51]
          exact ⟨by simp only [own_got, own_pend, if_neg hc16, if_neg hc43, if_neg hc47], N53, ((Keep.refl h0 [a1]).wr W51 (Or.inl (List.mem_of_getElem? (i := 0) rfl))), by simp only [own_left, own_pend, if_neg hc16, if_neg hc43, if_neg hc47]; exact Fw51⟩
theorem ef_rm4 (m : MethodId) (x0 : Addr) (x1 : Addr) (x2 : Int32) (x3 : Int64) : entryFrame m #[(.ref x0), (.ref x1), (.int x2), (.long x3)] 11 = mkF m 0 #[.val (.ref x0), .val (.ref x1), .val (.int x2), .val (.long x3), .second, .unset, .unset, .unset, .unset, .unset, .unset] [] := by first | (simp [entryFrame, mkF, argsToLocals, Value.category]; done) | rfl
def Q_rm4 (Z : State) (a1 : Addr) (b1 : Addr) (k1 : Int32) (o1 : Int64) (n1 : Int64) (h0 : Heap) (n0 : Nat) (v : Option Value) (h : Heap) (L : List Loc) : Prop := v = some (.int 1) ∧ Fr n0 L ∧ Keep h0 h [a1, b1] ∧ Fld Z h a1 "tidegate/operator/FilterOperator$Drops" "waiting" "J" (.long (own_left (own_pend n1 k1) o1)) ∧ ArF Z h b1 .long 1 (fun _ => .long (own_left (own_pend n1 k1) o1))
set_option maxRecDepth 65536 in
set_option maxHeartbeats 40000000 in
theorem rm4 (l : Launch) (Z : State) (a0 : Array Value) (hw : ∀ d ∈ tables_1, d.before a0 Z = true) (ws : List Jvm.Cond) (a1 : Addr) (b1 : Addr) (k1 : Int32) (o1 : Int64) (n1 : Int64) (h0 : Heap) (n0 : Nat) (Z0 : n0 ≤ h0.size) (F56 : Exa Z h0 a1 "tidegate/operator/FilterOperator$Drops") (F57 : Fld Z h0 a1 "tidegate/operator/FilterOperator$Drops" "waiting" "J" (.long n1)) (F58 : ArF Z h0 b1 .long 1 (fun _ => (.long n1))) (g_a1 : n0 ≤ a1) (g_b1 : n0 ≤ b1) (ne_a1_b1 : a1 ≠ b1) (hn : own_in n1 100) :
    MetFree l (⟨"tidegate/operator/DropsCountPinLaw", "check", "(Ltidegate/operator/FilterOperator$Drops;[JZJ)Z"⟩ : MethodName) (head1 (Jvm.Cond.code (⟨"tidegate/operator/DropsCountPinLaw", "check", "(Ltidegate/operator/FilterOperator$Drops;[JZJ)Z"⟩ : MethodName) method_3_code 11 (some .boolean) :: ws) ({ frames := 1, cells := 0, slots := 0, locals := 17 } : Room)) (fun a U => a = #[(.ref a1), (.ref b1), (.int k1), (.long o1)] ∧ Z.Warmed39 U.vm ∧ U.heap = h0) (fun _ _ _ _ _ => True) (fun _ U o U' => ∃ v L, o = .returned v ∧ Q_rm4 Z a1 b1 k1 o1 n1 h0 n0 v U'.heap L ∧ FrameEnd U o U' L ({ frames := 1, cells := 0, slots := 0, locals := 17 } : Room).cells ({ frames := 1, cells := 0, slots := 0, locals := 17 } : Room).slots) := by
  refine MetFree.of_bodySF (plainFor_of_name pn_1) hisR ?_
  intro p e s m args below meth c s₁ Bd hml0 hP hK
  obtain ⟨rfl, hZ, hh⟩ := hP
  have hx := Bd.exec
  have hby := Bd.bytes
  have hml : c.maxLocals = 11 := hml0
  have hown : s.vm.findClass "tidegate/operator/DropsCountPinLaw" = some m.cls := findClass_of_methodNamed Bd.named
  have hnm := (name_of_methodNamed Bd.named Bd.method).1
  have X0 : Stand p l e ({ frames := 1, cells := 0, slots := 0, locals := 17 } : Room) s m #[(.ref a1), (.ref b1), (.int k1), (.long o1)] below meth c s₁ [] 0 0 := Stand.of_body Bd
  have e0 : s₁.heap = h0 := by rw [← hh, Bd.state]; rfl
  have N0 := Fr.nil n0
  have pre0 : ∀ t, Steps p.tables e below (s₁.setTop (mkF m 0 #[.val (.ref a1), .val (.ref b1), .val (.int k1), .val (.long o1), .second, .unset, .unset, .unset, .unset, .unset, .unset] [])) t → Steps p.tables e below (s₁.setTop (entryFrame m #[(.ref a1), (.ref b1), (.int k1), (.long o1)] 11)) t := fun t k => castTop (ef_rm4 m a1 b1 k1 o1) k
  have S59 : ∀ t, Steps p.tables e below (s₁.setTop (mkF m 1 #[.val (.ref a1), .val (.ref b1), .val (.int k1), .val (.long o1), .second, .unset, .unset, .unset, .unset, .unset, .unset] [(.int k1)])) t → Steps p.tables e below (s₁.setTop (mkF m 0 #[.val (.ref a1), .val (.ref b1), .val (.int k1), .val (.long o1), .second, .unset, .unset, .unset, .unset, .unset, .unset] [])) t := by
    intro t kt
    show Steps p.tables e below (s₁.setTop (mkF m 0 #[.val (.ref a1), .val (.ref b1), .val (.int k1), .val (.long o1), .second, .unset, .unset, .unset, .unset, .unset, .unset] [])) _
    refine XS.iloadN X0.here hx rfl (hb hby d4_0) rfl ?_
    exact kt
  obtain ⟨v62, hv62⟩ : ∃ z : Int64, z = (if k1 = (0 : Int32) then (n1 + (1 : Int64)) else n1) := ⟨_, rfl⟩
  have S61 : ∀ t, Steps p.tables e below (s₁.setTop (mkF m 15 #[.val (.ref a1), .val (.ref b1), .val (.int k1), .val (.long o1), .second, .unset, .unset, .unset, .unset, .unset, .unset] [(.long v62)])) t → Steps p.tables e below (s₁.setTop (mkF m 1 #[.val (.ref a1), .val (.ref b1), .val (.int k1), .val (.long o1), .second, .unset, .unset, .unset, .unset, .unset, .unset] [(.int k1)])) t := by
    intro t kt
    subst hv62
    by_cases hc60 : k1 = (0 : Int32)
    · simp only [if_pos hc60] at kt
      show Steps p.tables e below (s₁.setTop (mkF m 1 #[.val (.ref a1), .val (.ref b1), .val (.int k1), .val (.long o1), .second, .unset, .unset, .unset, .unset, .unset, .unset] [(.int k1)])) _
      refine XS.ifYes X0.here hx rfl (pc0 := 1) (pc' := 10) rfl (hb hby d4_1) rfl ((if0 _ _).trans (teq hc60).1) (by decide) (by decide) ?_
      show Steps p.tables e below (s₁.setTop (mkF m 10 #[.val (.ref a1), .val (.ref b1), .val (.int k1), .val (.long o1), .second, .unset, .unset, .unset, .unset, .unset, .unset] [])) _
      refine XS.aloadN X0.here hx rfl (hb hby d4_10) rfl rfl ?_
      show Steps p.tables e below (s₁.setTop (mkF m 11 #[.val (.ref a1), .val (.ref b1), .val (.int k1), .val (.long o1), .second, .unset, .unset, .unset, .unset, .unset, .unset] [(.ref b1)])) _
      refine XS.iconst X0.here hx rfl (hb hby d4_11) ?_
      show Steps p.tables e below (s₁.setTop (mkF m 12 #[.val (.ref a1), .val (.ref b1), .val (.int k1), .val (.long o1), .second, .unset, .unset, .unset, .unset, .unset, .unset] [(.int (0 : Int32)), (.ref b1)])) _
      refine ArF.ldJ X0 hx hZ e0 F58 (i := 0) (by decide) (by decide) (v := n1) rfl (g := (mkF m 12 #[.val (.ref a1), .val (.ref b1), .val (.int k1), .val (.long o1), .second, .unset, .unset, .unset, .unset, .unset, .unset] [(.int (0 : Int32)), (.ref b1)])) rfl rfl (hb hby d4_12) _ ?_
      show Steps p.tables e below (s₁.setTop (mkF m 13 #[.val (.ref a1), .val (.ref b1), .val (.int k1), .val (.long o1), .second, .unset, .unset, .unset, .unset, .unset, .unset] [(.long n1)])) _
      refine XS.lconst X0.here hx rfl (hb hby d4_13) ?_
      show Steps p.tables e below (s₁.setTop (mkF m 14 #[.val (.ref a1), .val (.ref b1), .val (.int k1), .val (.long o1), .second, .unset, .unset, .unset, .unset, .unset, .unset] [(.long (1 : Int64)), (.long n1)])) _
      refine XS.ladd X0.here hx rfl (hb hby d4_14) rfl ?_
      exact kt
    · simp only [if_neg hc60] at kt
      show Steps p.tables e below (s₁.setTop (mkF m 1 #[.val (.ref a1), .val (.ref b1), .val (.int k1), .val (.long o1), .second, .unset, .unset, .unset, .unset, .unset, .unset] [(.int k1)])) _
      refine XS.ifNo X0.here hx rfl (hb hby d4_1) rfl ((if0 _ _).trans (feq hc60).1) ?_
      show Steps p.tables e below (s₁.setTop (mkF m 4 #[.val (.ref a1), .val (.ref b1), .val (.int k1), .val (.long o1), .second, .unset, .unset, .unset, .unset, .unset, .unset] [])) _
      refine XS.aloadN X0.here hx rfl (hb hby d4_4) rfl rfl ?_
      show Steps p.tables e below (s₁.setTop (mkF m 5 #[.val (.ref a1), .val (.ref b1), .val (.int k1), .val (.long o1), .second, .unset, .unset, .unset, .unset, .unset, .unset] [(.ref b1)])) _
      refine XS.iconst X0.here hx rfl (hb hby d4_5) ?_
      show Steps p.tables e below (s₁.setTop (mkF m 6 #[.val (.ref a1), .val (.ref b1), .val (.int k1), .val (.long o1), .second, .unset, .unset, .unset, .unset, .unset, .unset] [(.int (0 : Int32)), (.ref b1)])) _
      refine ArF.ldJ X0 hx hZ e0 F58 (i := 0) (by decide) (by decide) (v := n1) rfl (g := (mkF m 6 #[.val (.ref a1), .val (.ref b1), .val (.int k1), .val (.long o1), .second, .unset, .unset, .unset, .unset, .unset, .unset] [(.int (0 : Int32)), (.ref b1)])) rfl rfl (hb hby d4_6) _ ?_
      show Steps p.tables e below (s₁.setTop (mkF m 7 #[.val (.ref a1), .val (.ref b1), .val (.int k1), .val (.long o1), .second, .unset, .unset, .unset, .unset, .unset, .unset] [(.long n1)])) _
      refine XS.goto X0.here hx rfl (pc0 := 7) (pc' := 15) rfl (hb hby d4_7) (by decide) (by decide) ?_
      exact kt
  have hp : v62 = (own_pend n1 k1) := hv62
  have hin : own_in v62 101 := by rw [hp]; exact own_pend_in hn (by decide) _
  have S63 : ∀ t, Steps p.tables e below (s₁.setTop (mkF m 21 #[.val (.ref a1), .val (.ref b1), .val (.int k1), .val (.long o1), .second, .val (.long v62), .second, .unset, .unset, .unset, .unset] [(.int (lcmpW v62 (0 : Int64)))])) t → Steps p.tables e below (s₁.setTop (mkF m 15 #[.val (.ref a1), .val (.ref b1), .val (.int k1), .val (.long o1), .second, .unset, .unset, .unset, .unset, .unset, .unset] [(.long v62)])) t := by
    intro t kt
    show Steps p.tables e below (s₁.setTop (mkF m 15 #[.val (.ref a1), .val (.ref b1), .val (.int k1), .val (.long o1), .second, .unset, .unset, .unset, .unset, .unset, .unset] [(.long v62)])) _
    refine XS.lstore X0.here hx rfl (hb hby d4_15) rfl (l' := #[.val (.ref a1), .val (.ref b1), .val (.int k1), .val (.long o1), .second, .val (.long v62), .second, .unset, .unset, .unset, .unset]) rfl ?_
    show Steps p.tables e below (s₁.setTop (mkF m 17 #[.val (.ref a1), .val (.ref b1), .val (.int k1), .val (.long o1), .second, .val (.long v62), .second, .unset, .unset, .unset, .unset] [])) _
    refine XS.lload X0.here hx rfl (hb hby d4_17) rfl ?_
    show Steps p.tables e below (s₁.setTop (mkF m 19 #[.val (.ref a1), .val (.ref b1), .val (.int k1), .val (.long o1), .second, .val (.long v62), .second, .unset, .unset, .unset, .unset] [(.long v62)])) _
    refine XS.lconst X0.here hx rfl (hb hby d4_19) ?_
    show Steps p.tables e below (s₁.setTop (mkF m 20 #[.val (.ref a1), .val (.ref b1), .val (.int k1), .val (.long o1), .second, .val (.long v62), .second, .unset, .unset, .unset, .unset] [(.long (0 : Int64)), (.long v62)])) _
    refine XS.lcmp X0.here hx rfl (hb hby d4_20) rfl ?_
    exact kt
  obtain ⟨v67, hv67⟩ : ∃ z : Int64, z = (if (0 : Int64) < v62 then (if v62 < o1 then (0 : Int64) else v62) else (0 : Int64)) := ⟨_, rfl⟩
  have S66 : ∀ t, Steps p.tables e below (s₁.setTop (mkF m 37 #[.val (.ref a1), .val (.ref b1), .val (.int k1), .val (.long o1), .second, .val (.long v62), .second, .unset, .unset, .unset, .unset] [(.long v67)])) t → Steps p.tables e below (s₁.setTop (mkF m 21 #[.val (.ref a1), .val (.ref b1), .val (.int k1), .val (.long o1), .second, .val (.long v62), .second, .unset, .unset, .unset, .unset] [(.int (lcmpW v62 (0 : Int64)))])) t := by
    intro t kt
    subst hv67
    by_cases hc64 : (0 : Int64) < v62
    · by_cases hc65 : v62 < o1
      · simp only [if_pos hc64, if_pos hc65] at kt
        show Steps p.tables e below (s₁.setTop (mkF m 21 #[.val (.ref a1), .val (.ref b1), .val (.int k1), .val (.long o1), .second, .val (.long v62), .second, .unset, .unset, .unset, .unset] [(.int (lcmpW v62 (0 : Int64)))])) _
        refine XS.ifNo X0.here hx rfl (hb hby d4_21) rfl ((if0 _ _).trans (tlt ((lw_gt v62 (0 : Int64)).mpr hc64)).2.2.2) ?_
        show Steps p.tables e below (s₁.setTop (mkF m 24 #[.val (.ref a1), .val (.ref b1), .val (.int k1), .val (.long o1), .second, .val (.long v62), .second, .unset, .unset, .unset, .unset] [])) _
        refine XS.lload X0.here hx rfl (hb hby d4_24) rfl ?_
        show Steps p.tables e below (s₁.setTop (mkF m 26 #[.val (.ref a1), .val (.ref b1), .val (.int k1), .val (.long o1), .second, .val (.long v62), .second, .unset, .unset, .unset, .unset] [(.long v62)])) _
        refine XS.lloadN X0.here hx rfl (hb hby d4_26) rfl ?_
        show Steps p.tables e below (s₁.setTop (mkF m 27 #[.val (.ref a1), .val (.ref b1), .val (.int k1), .val (.long o1), .second, .val (.long v62), .second, .unset, .unset, .unset, .unset] [(.long o1), (.long v62)])) _
        refine XS.lcmp X0.here hx rfl (hb hby d4_27) rfl ?_
        show Steps p.tables e below (s₁.setTop (mkF m 28 #[.val (.ref a1), .val (.ref b1), .val (.int k1), .val (.long o1), .second, .val (.long v62), .second, .unset, .unset, .unset, .unset] [(.int (lcmpW v62 o1))])) _
        refine XS.ifYes X0.here hx rfl (pc0 := 28) (pc' := 36) rfl (hb hby d4_28) rfl ((if0 _ _).trans (tlt ((lw_lt v62 o1).mpr hc65)).1) (by decide) (by decide) ?_
        show Steps p.tables e below (s₁.setTop (mkF m 36 #[.val (.ref a1), .val (.ref b1), .val (.int k1), .val (.long o1), .second, .val (.long v62), .second, .unset, .unset, .unset, .unset] [])) _
        refine XS.lconst X0.here hx rfl (hb hby d4_36) ?_
        exact kt
      · simp only [if_pos hc64, if_neg hc65] at kt
        show Steps p.tables e below (s₁.setTop (mkF m 21 #[.val (.ref a1), .val (.ref b1), .val (.int k1), .val (.long o1), .second, .val (.long v62), .second, .unset, .unset, .unset, .unset] [(.int (lcmpW v62 (0 : Int64)))])) _
        refine XS.ifNo X0.here hx rfl (hb hby d4_21) rfl ((if0 _ _).trans (tlt ((lw_gt v62 (0 : Int64)).mpr hc64)).2.2.2) ?_
        show Steps p.tables e below (s₁.setTop (mkF m 24 #[.val (.ref a1), .val (.ref b1), .val (.int k1), .val (.long o1), .second, .val (.long v62), .second, .unset, .unset, .unset, .unset] [])) _
        refine XS.lload X0.here hx rfl (hb hby d4_24) rfl ?_
        show Steps p.tables e below (s₁.setTop (mkF m 26 #[.val (.ref a1), .val (.ref b1), .val (.int k1), .val (.long o1), .second, .val (.long v62), .second, .unset, .unset, .unset, .unset] [(.long v62)])) _
        refine XS.lloadN X0.here hx rfl (hb hby d4_26) rfl ?_
        show Steps p.tables e below (s₁.setTop (mkF m 27 #[.val (.ref a1), .val (.ref b1), .val (.int k1), .val (.long o1), .second, .val (.long v62), .second, .unset, .unset, .unset, .unset] [(.long o1), (.long v62)])) _
        refine XS.lcmp X0.here hx rfl (hb hby d4_27) rfl ?_
        show Steps p.tables e below (s₁.setTop (mkF m 28 #[.val (.ref a1), .val (.ref b1), .val (.int k1), .val (.long o1), .second, .val (.long v62), .second, .unset, .unset, .unset, .unset] [(.int (lcmpW v62 o1))])) _
        refine XS.ifNo X0.here hx rfl (hb hby d4_28) rfl ((if0 _ _).trans (flt (fun q => hc65 ((lw_lt v62 o1).mp q))).1) ?_
        show Steps p.tables e below (s₁.setTop (mkF m 31 #[.val (.ref a1), .val (.ref b1), .val (.int k1), .val (.long o1), .second, .val (.long v62), .second, .unset, .unset, .unset, .unset] [])) _
        refine XS.lload X0.here hx rfl (hb hby d4_31) rfl ?_
        show Steps p.tables e below (s₁.setTop (mkF m 33 #[.val (.ref a1), .val (.ref b1), .val (.int k1), .val (.long o1), .second, .val (.long v62), .second, .unset, .unset, .unset, .unset] [(.long v62)])) _
        refine XS.goto X0.here hx rfl (pc0 := 33) (pc' := 37) rfl (hb hby d4_33) (by decide) (by decide) ?_
        exact kt
    · simp only [if_neg hc64] at kt
      show Steps p.tables e below (s₁.setTop (mkF m 21 #[.val (.ref a1), .val (.ref b1), .val (.int k1), .val (.long o1), .second, .val (.long v62), .second, .unset, .unset, .unset, .unset] [(.int (lcmpW v62 (0 : Int64)))])) _
      refine XS.ifYes X0.here hx rfl (pc0 := 21) (pc' := 36) rfl (hb hby d4_21) rfl ((if0 _ _).trans (flt (fun q => hc64 ((lw_gt v62 (0 : Int64)).mp q))).2.2.2) (by decide) (by decide) ?_
      show Steps p.tables e below (s₁.setTop (mkF m 36 #[.val (.ref a1), .val (.ref b1), .val (.int k1), .val (.long o1), .second, .val (.long v62), .second, .unset, .unset, .unset, .unset] [])) _
      refine XS.lconst X0.here hx rfl (hb hby d4_36) ?_
      exact kt
  have S68 : ∀ t, Steps p.tables e below (s₁.setTop (mkF m 45 #[.val (.ref a1), .val (.ref b1), .val (.int k1), .val (.long o1), .second, .val (.long v62), .second, .val (.long v67), .second, .unset, .unset] [(.int (lcmpW v67 (0 : Int64))), (.int (0 : Int32)), (.ref b1)])) t → Steps p.tables e below (s₁.setTop (mkF m 37 #[.val (.ref a1), .val (.ref b1), .val (.int k1), .val (.long o1), .second, .val (.long v62), .second, .unset, .unset, .unset, .unset] [(.long v67)])) t := by
    intro t kt
    show Steps p.tables e below (s₁.setTop (mkF m 37 #[.val (.ref a1), .val (.ref b1), .val (.int k1), .val (.long o1), .second, .val (.long v62), .second, .unset, .unset, .unset, .unset] [(.long v67)])) _
    refine XS.lstore X0.here hx rfl (hb hby d4_37) rfl (l' := #[.val (.ref a1), .val (.ref b1), .val (.int k1), .val (.long o1), .second, .val (.long v62), .second, .val (.long v67), .second, .unset, .unset]) rfl ?_
    show Steps p.tables e below (s₁.setTop (mkF m 39 #[.val (.ref a1), .val (.ref b1), .val (.int k1), .val (.long o1), .second, .val (.long v62), .second, .val (.long v67), .second, .unset, .unset] [])) _
    refine XS.aloadN X0.here hx rfl (hb hby d4_39) rfl rfl ?_
    show Steps p.tables e below (s₁.setTop (mkF m 40 #[.val (.ref a1), .val (.ref b1), .val (.int k1), .val (.long o1), .second, .val (.long v62), .second, .val (.long v67), .second, .unset, .unset] [(.ref b1)])) _
    refine XS.iconst X0.here hx rfl (hb hby d4_40) ?_
    show Steps p.tables e below (s₁.setTop (mkF m 41 #[.val (.ref a1), .val (.ref b1), .val (.int k1), .val (.long o1), .second, .val (.long v62), .second, .val (.long v67), .second, .unset, .unset] [(.int (0 : Int32)), (.ref b1)])) _
    refine XS.lload X0.here hx rfl (hb hby d4_41) rfl ?_
    show Steps p.tables e below (s₁.setTop (mkF m 43 #[.val (.ref a1), .val (.ref b1), .val (.int k1), .val (.long o1), .second, .val (.long v62), .second, .val (.long v67), .second, .unset, .unset] [(.long v67), (.int (0 : Int32)), (.ref b1)])) _
    refine XS.lconst X0.here hx rfl (hb hby d4_43) ?_
    show Steps p.tables e below (s₁.setTop (mkF m 44 #[.val (.ref a1), .val (.ref b1), .val (.int k1), .val (.long o1), .second, .val (.long v62), .second, .val (.long v67), .second, .unset, .unset] [(.long (0 : Int64)), (.long v67), (.int (0 : Int32)), (.ref b1)])) _
    refine XS.lcmp X0.here hx rfl (hb hby d4_44) rfl ?_
    exact kt
  obtain ⟨v71, hv71⟩ : ∃ z : Int64, z = (if v67 = (0 : Int64) then v62 else (0 : Int64)) := ⟨_, rfl⟩
  have S70 : ∀ t, Steps p.tables e below (s₁.setTop (mkF m 54 #[.val (.ref a1), .val (.ref b1), .val (.int k1), .val (.long o1), .second, .val (.long v62), .second, .val (.long v67), .second, .unset, .unset] [(.long v71), (.int (0 : Int32)), (.ref b1)])) t → Steps p.tables e below (s₁.setTop (mkF m 45 #[.val (.ref a1), .val (.ref b1), .val (.int k1), .val (.long o1), .second, .val (.long v62), .second, .val (.long v67), .second, .unset, .unset] [(.int (lcmpW v67 (0 : Int64))), (.int (0 : Int32)), (.ref b1)])) t := by
    intro t kt
    subst hv71
    by_cases hc69 : v67 = (0 : Int64)
    · simp only [if_pos hc69] at kt
      show Steps p.tables e below (s₁.setTop (mkF m 45 #[.val (.ref a1), .val (.ref b1), .val (.int k1), .val (.long o1), .second, .val (.long v62), .second, .val (.long v67), .second, .unset, .unset] [(.int (lcmpW v67 (0 : Int64))), (.int (0 : Int32)), (.ref b1)])) _
      refine XS.ifNo X0.here hx rfl (hb hby d4_45) rfl ((if0 _ _).trans (teq ((lw_eq v67 (0 : Int64)).mpr hc69)).2) ?_
      show Steps p.tables e below (s₁.setTop (mkF m 48 #[.val (.ref a1), .val (.ref b1), .val (.int k1), .val (.long o1), .second, .val (.long v62), .second, .val (.long v67), .second, .unset, .unset] [(.int (0 : Int32)), (.ref b1)])) _
      refine XS.lload X0.here hx rfl (hb hby d4_48) rfl ?_
      show Steps p.tables e below (s₁.setTop (mkF m 50 #[.val (.ref a1), .val (.ref b1), .val (.int k1), .val (.long o1), .second, .val (.long v62), .second, .val (.long v67), .second, .unset, .unset] [(.long v62), (.int (0 : Int32)), (.ref b1)])) _
      refine XS.goto X0.here hx rfl (pc0 := 50) (pc' := 54) rfl (hb hby d4_50) (by decide) (by decide) ?_
      exact kt
    · simp only [if_neg hc69] at kt
      show Steps p.tables e below (s₁.setTop (mkF m 45 #[.val (.ref a1), .val (.ref b1), .val (.int k1), .val (.long o1), .second, .val (.long v62), .second, .val (.long v67), .second, .unset, .unset] [(.int (lcmpW v67 (0 : Int64))), (.int (0 : Int32)), (.ref b1)])) _
      refine XS.ifYes X0.here hx rfl (pc0 := 45) (pc' := 53) rfl (hb hby d4_45) rfl ((if0 _ _).trans (feq (fun q => hc69 ((lw_eq v67 (0 : Int64)).mp q))).2) (by decide) (by decide) ?_
      show Steps p.tables e below (s₁.setTop (mkF m 53 #[.val (.ref a1), .val (.ref b1), .val (.int k1), .val (.long o1), .second, .val (.long v62), .second, .val (.long v67), .second, .unset, .unset] [(.int (0 : Int32)), (.ref b1)])) _
      refine XS.lconst X0.here hx rfl (hb hby d4_53) ?_
      exact kt
  obtain ⟨hg, hl⟩ := own_check hin hv67 hv71
  rw [hp] at hg hl
  obtain ⟨T72, h72, X72, e72, W72, V72, st72⟩ := ArF.stJ X0 hx hZ e0 F58 (i := 0) (by decide) (by decide) (g := (mkF m 54 #[.val (.ref a1), .val (.ref b1), .val (.int k1), .val (.long o1), .second, .val (.long v62), .second, .val (.long v67), .second, .unset, .unset] [(.long v71), (.int (0 : Int32)), (.ref b1)])) rfl rfl (hb hby d4_54)
  have z73 : n0 ≤ h72.size := Nat.le_trans Z0 (Keep.of_wr W72).1
  have N74 := Fr.snoc X72 N0 g_b1
  have V72' := V72.congr (f' := (fun _ => (.long v71))) (fun i hi => by have e : i = 0 := (by omega); subst e; rfl)
  have f75 := (F56.wr W72)
  have f76 := (F57.other W72 (Or.inl ne_a1_b1))
  have S77 : ∀ t, Steps p.tables e below (T72.setTop (mkF m 58 #[.val (.ref a1), .val (.ref b1), .val (.int k1), .val (.long o1), .second, .val (.long v62), .second, .val (.long v67), .second, .unset, .unset] [(.long o1), (.int k1), (.ref a1)])) t → Steps p.tables e below (T72.setTop (mkF m 55 #[.val (.ref a1), .val (.ref b1), .val (.int k1), .val (.long o1), .second, .val (.long v62), .second, .val (.long v67), .second, .unset, .unset] [])) t := by
    intro t kt
    show Steps p.tables e below (T72.setTop (mkF m 55 #[.val (.ref a1), .val (.ref b1), .val (.int k1), .val (.long o1), .second, .val (.long v62), .second, .val (.long v67), .second, .unset, .unset] [])) _
    refine XS.aloadN X72.here hx rfl (hb hby d4_55) rfl rfl ?_
    show Steps p.tables e below (T72.setTop (mkF m 56 #[.val (.ref a1), .val (.ref b1), .val (.int k1), .val (.long o1), .second, .val (.long v62), .second, .val (.long v67), .second, .unset, .unset] [(.ref a1)])) _
    refine XS.iloadN X72.here hx rfl (hb hby d4_56) rfl ?_
    show Steps p.tables e below (T72.setTop (mkF m 57 #[.val (.ref a1), .val (.ref b1), .val (.int k1), .val (.long o1), .second, .val (.long v62), .second, .val (.long v67), .second, .unset, .unset] [(.int k1), (.ref a1)])) _
    refine XS.lloadN X72.here hx rfl (hb hby d4_57) rfl ?_
    exact kt
  obtain ⟨cq78, kq78, q78a, q78b, q78c⟩ := isOf hZ e72 f75
  obtain ⟨_, _, ⟨T78, L78, k78, n78⟩, -, X78, ⟨Lc78, hQ78, l78, y78, z78⟩, st78⟩ := X72.virtualBack hx (y := (⟨"tidegate/operator/FilterOperator$Drops", "count", "(ZJ)J"⟩ : MethodName)) (z := (⟨"tidegate/operator/FilterOperator$Drops", "count", "(ZJ)J"⟩ : MethodName)) hown (mvT hZ (hw _ (List.mem_of_getElem? (i := 21) rfl))) (mvT hZ (hw _ (List.mem_of_getElem? (i := 22) rfl))) (notFace_of_selects (args := #[]) (mvT hZ (hw _ (List.mem_of_getElem? (i := 24) rfl)))) (mvT hZ (hw _ (List.mem_of_getElem? (i := 24) rfl))) (mvT hZ (hw _ (List.mem_of_getElem? (i := 23) rfl))) (by decide) (backOf (W := 0) (rm5 l Z a0 hw [] a1 k1 o1 n1 h72 n0 z73 f75 f76 g_a1) hZ (hw _ (List.mem_of_getElem? (i := 25) rfl)) (hw _ (List.mem_of_getElem? (i := 2) rfl)) (by decide) (by decide)) q78a q78c (g := (mkF m 58 #[.val (.ref a1), .val (.ref b1), .val (.int k1), .val (.long o1), .second, .val (.long v62), .second, .val (.long v67), .second, .unset, .unset] [(.long o1), (.int k1), (.ref a1)])) rfl (by rw [hml]; rfl) (Steps.refl _) (argsL := [(.int k1), (.long o1)]) (rest := []) (lenOf pd_0 rfl) rfl (by show 2 * 0 + _ ≤ _; exact Nat.le_of_eq rfl) (hb hby d4_58) (fun _ _ => ⟨rfl, e72, (by decide : 0 + 0 ≤ _), (by decide : 0 + 0 ≤ _)⟩)
  dsimp only [Pt.U, Pt.locs, Pt.cells, Pt.slots] at X78 l78 y78 z78 st78 hQ78
  subst l78 y78 z78
  obtain ⟨h78, e78⟩ : ∃ z, T78.heap = z := ⟨_, rfl⟩
  rw [e78] at hQ78
  obtain ⟨rfl, N78q, K78q, F79⟩ := hQ78
  have z80 : n0 ≤ h78.size := Nat.le_trans z73 K78q.1
  have N78 := Fr.app N74 N78q
  have S81 : ∀ t, Steps p.tables e below (T78.setTop (mkF m 72 #[.val (.ref a1), .val (.ref b1), .val (.int k1), .val (.long o1), .second, .val (.long v62), .second, .val (.long v67), .second, .val (.long (own_got (own_pend n1 k1) o1)), .second] [(.ref a1)])) t → Steps p.tables e below (T78.setTop (mkF m 61 #[.val (.ref a1), .val (.ref b1), .val (.int k1), .val (.long o1), .second, .val (.long v62), .second, .val (.long v67), .second, .unset, .unset] [(.long (own_got (own_pend n1 k1) o1))])) t := by
    intro t kt
    show Steps p.tables e below (T78.setTop (mkF m 61 #[.val (.ref a1), .val (.ref b1), .val (.int k1), .val (.long o1), .second, .val (.long v62), .second, .val (.long v67), .second, .unset, .unset] [(.long (own_got (own_pend n1 k1) o1))])) _
    refine XS.lstore X78.here hx rfl (hb hby d4_61) rfl (l' := #[.val (.ref a1), .val (.ref b1), .val (.int k1), .val (.long o1), .second, .val (.long v62), .second, .val (.long v67), .second, .val (.long (own_got (own_pend n1 k1) o1)), .second]) rfl ?_
    show Steps p.tables e below (T78.setTop (mkF m 63 #[.val (.ref a1), .val (.ref b1), .val (.int k1), .val (.long o1), .second, .val (.long v62), .second, .val (.long v67), .second, .val (.long (own_got (own_pend n1 k1) o1)), .second] [])) _
    refine XS.lload X78.here hx rfl (hb hby d4_63) rfl ?_
    show Steps p.tables e below (T78.setTop (mkF m 65 #[.val (.ref a1), .val (.ref b1), .val (.int k1), .val (.long o1), .second, .val (.long v62), .second, .val (.long v67), .second, .val (.long (own_got (own_pend n1 k1) o1)), .second] [(.long (own_got (own_pend n1 k1) o1))])) _
    refine XS.lload X78.here hx rfl (hb hby d4_65) rfl ?_
    show Steps p.tables e below (T78.setTop (mkF m 67 #[.val (.ref a1), .val (.ref b1), .val (.int k1), .val (.long o1), .second, .val (.long v62), .second, .val (.long v67), .second, .val (.long (own_got (own_pend n1 k1) o1)), .second] [(.long v67), (.long (own_got (own_pend n1 k1) o1))])) _
    refine XS.lcmp X78.here hx rfl (hb hby d4_67) rfl ?_
    show Steps p.tables e below (T78.setTop (mkF m 68 #[.val (.ref a1), .val (.ref b1), .val (.int k1), .val (.long o1), .second, .val (.long v62), .second, .val (.long v67), .second, .val (.long (own_got (own_pend n1 k1) o1)), .second] [(.int (lcmpW (own_got (own_pend n1 k1) o1) v67))])) _
    refine XS.ifNo X78.here hx rfl (hb hby d4_68) rfl ((if0 _ _).trans (teq ((lw_eq (own_got (own_pend n1 k1) o1) v67).mpr hg)).2) ?_
    show Steps p.tables e below (T78.setTop (mkF m 71 #[.val (.ref a1), .val (.ref b1), .val (.int k1), .val (.long o1), .second, .val (.long v62), .second, .val (.long v67), .second, .val (.long (own_got (own_pend n1 k1) o1)), .second] [])) _
    refine XS.aloadN X78.here hx rfl (hb hby d4_71) rfl rfl ?_
    exact kt
  have f83 := (f75.keep K78q)
  obtain ⟨cq82, kq82, q82a, q82b, q82c⟩ := isOf hZ e78 f83
  obtain ⟨_, _, ⟨T82, L82, k82, n82⟩, -, X82, ⟨Lc82, hQ82, l82, y82, z82⟩, st82⟩ := X78.virtualBack hx (y := (⟨"tidegate/operator/FilterOperator$Drops", "waiting", "()Z"⟩ : MethodName)) (z := (⟨"tidegate/operator/FilterOperator$Drops", "waiting", "()Z"⟩ : MethodName)) hown (mvT hZ (hw _ (List.mem_of_getElem? (i := 10) rfl))) (mvT hZ (hw _ (List.mem_of_getElem? (i := 11) rfl))) (notFace_of_selects (args := #[]) (mvT hZ (hw _ (List.mem_of_getElem? (i := 13) rfl)))) (mvT hZ (hw _ (List.mem_of_getElem? (i := 13) rfl))) (mvT hZ (hw _ (List.mem_of_getElem? (i := 12) rfl))) (by decide) (backOf (W := 0) (rm3 l Z a0 hw [] a1 (own_left (own_pend n1 k1) o1) h78 n0 z80 F79) hZ (hw _ (List.mem_of_getElem? (i := 14) rfl)) (hw _ (List.mem_of_getElem? (i := 2) rfl)) (by decide) (by decide)) q82a q82c (g := (mkF m 72 #[.val (.ref a1), .val (.ref b1), .val (.int k1), .val (.long o1), .second, .val (.long v62), .second, .val (.long v67), .second, .val (.long (own_got (own_pend n1 k1) o1)), .second] [(.ref a1)])) rfl (by rw [hml]; rfl) (Steps.refl _) (argsL := []) (rest := []) (lenOf pd_1 rfl) rfl (by show 2 * 0 + _ ≤ _; exact Nat.le_of_eq rfl) (hb hby d4_72) (fun _ _ => ⟨rfl, e78, (by decide : 0 + 0 ≤ _), (by decide : 0 + 0 ≤ _)⟩)
  dsimp only [Pt.U, Pt.locs, Pt.cells, Pt.slots] at X82 l82 y82 z82 st82 hQ82
  subst l82 y82 z82
  obtain ⟨rfl, N82q, e82⟩ := hQ82
  have N82 := Fr.app N78 N82q
  have S84 : ∀ t, Steps p.tables e below (T82.setTop (mkF m 77 #[.val (.ref a1), .val (.ref b1), .val (.int k1), .val (.long o1), .second, .val (.long v62), .second, .val (.long v67), .second, .val (.long (own_got (own_pend n1 k1) o1)), .second] [(.int (0 : Int32)), (.ref b1), (.int (own_wait (own_left (own_pend n1 k1) o1)))])) t → Steps p.tables e below (T82.setTop (mkF m 75 #[.val (.ref a1), .val (.ref b1), .val (.int k1), .val (.long o1), .second, .val (.long v62), .second, .val (.long v67), .second, .val (.long (own_got (own_pend n1 k1) o1)), .second] [(.int (own_wait (own_left (own_pend n1 k1) o1)))])) t := by
    intro t kt
    show Steps p.tables e below (T82.setTop (mkF m 75 #[.val (.ref a1), .val (.ref b1), .val (.int k1), .val (.long o1), .second, .val (.long v62), .second, .val (.long v67), .second, .val (.long (own_got (own_pend n1 k1) o1)), .second] [(.int (own_wait (own_left (own_pend n1 k1) o1)))])) _
    refine XS.aloadN X82.here hx rfl (hb hby d4_75) rfl rfl ?_
    show Steps p.tables e below (T82.setTop (mkF m 76 #[.val (.ref a1), .val (.ref b1), .val (.int k1), .val (.long o1), .second, .val (.long v62), .second, .val (.long v67), .second, .val (.long (own_got (own_pend n1 k1) o1)), .second] [(.ref b1), (.int (own_wait (own_left (own_pend n1 k1) o1)))])) _
    refine XS.iconst X82.here hx rfl (hb hby d4_76) ?_
    exact kt
  have f85 := (V72'.keep K78q (ninS (Ne.symm ne_a1_b1) nin0))
  have S86 : ∀ t, Steps p.tables e below (T82.setTop (mkF m 80 #[.val (.ref a1), .val (.ref b1), .val (.int k1), .val (.long o1), .second, .val (.long v62), .second, .val (.long v67), .second, .val (.long (own_got (own_pend n1 k1) o1)), .second] [(.int (lcmpW v71 (0 : Int64))), (.int (own_wait (own_left (own_pend n1 k1) o1)))])) t → Steps p.tables e below (T82.setTop (mkF m 77 #[.val (.ref a1), .val (.ref b1), .val (.int k1), .val (.long o1), .second, .val (.long v62), .second, .val (.long v67), .second, .val (.long (own_got (own_pend n1 k1) o1)), .second] [(.int (0 : Int32)), (.ref b1), (.int (own_wait (own_left (own_pend n1 k1) o1)))])) t := by
    intro t kt
    show Steps p.tables e below (T82.setTop (mkF m 77 #[.val (.ref a1), .val (.ref b1), .val (.int k1), .val (.long o1), .second, .val (.long v62), .second, .val (.long v67), .second, .val (.long (own_got (own_pend n1 k1) o1)), .second] [(.int (0 : Int32)), (.ref b1), (.int (own_wait (own_left (own_pend n1 k1) o1)))])) _
    refine ArF.ldJ X82 hx hZ e82 f85 (i := 0) (by decide) (by decide) (v := v71) rfl (g := (mkF m 77 #[.val (.ref a1), .val (.ref b1), .val (.int k1), .val (.long o1), .second, .val (.long v62), .second, .val (.long v67), .second, .val (.long (own_got (own_pend n1 k1) o1)), .second] [(.int (0 : Int32)), (.ref b1), (.int (own_wait (own_left (own_pend n1 k1) o1)))])) rfl rfl (hb hby d4_77) _ ?_
    show Steps p.tables e below (T82.setTop (mkF m 78 #[.val (.ref a1), .val (.ref b1), .val (.int k1), .val (.long o1), .second, .val (.long v62), .second, .val (.long v67), .second, .val (.long (own_got (own_pend n1 k1) o1)), .second] [(.long v71), (.int (own_wait (own_left (own_pend n1 k1) o1)))])) _
    refine XS.lconst X82.here hx rfl (hb hby d4_78) ?_
    show Steps p.tables e below (T82.setTop (mkF m 79 #[.val (.ref a1), .val (.ref b1), .val (.int k1), .val (.long o1), .second, .val (.long v62), .second, .val (.long v67), .second, .val (.long (own_got (own_pend n1 k1) o1)), .second] [(.long (0 : Int64)), (.long v71), (.int (own_wait (own_left (own_pend n1 k1) o1)))])) _
    refine XS.lcmp X82.here hx rfl (hb hby d4_79) rfl ?_
    exact kt
  obtain ⟨v89, hv89⟩ : ∃ z : Int32, z = (if v71 = (0 : Int64) then (0 : Int32) else (1 : Int32)) := ⟨_, rfl⟩
  have S88 : ∀ t, Steps p.tables e below (T82.setTop (mkF m 88 #[.val (.ref a1), .val (.ref b1), .val (.int k1), .val (.long o1), .second, .val (.long v62), .second, .val (.long v67), .second, .val (.long (own_got (own_pend n1 k1) o1)), .second] [(.int v89), (.int (own_wait (own_left (own_pend n1 k1) o1)))])) t → Steps p.tables e below (T82.setTop (mkF m 80 #[.val (.ref a1), .val (.ref b1), .val (.int k1), .val (.long o1), .second, .val (.long v62), .second, .val (.long v67), .second, .val (.long (own_got (own_pend n1 k1) o1)), .second] [(.int (lcmpW v71 (0 : Int64))), (.int (own_wait (own_left (own_pend n1 k1) o1)))])) t := by
    intro t kt
    subst hv89
    by_cases hc87 : v71 = (0 : Int64)
    · simp only [if_pos hc87] at kt
      show Steps p.tables e below (T82.setTop (mkF m 80 #[.val (.ref a1), .val (.ref b1), .val (.int k1), .val (.long o1), .second, .val (.long v62), .second, .val (.long v67), .second, .val (.long (own_got (own_pend n1 k1) o1)), .second] [(.int (lcmpW v71 (0 : Int64))), (.int (own_wait (own_left (own_pend n1 k1) o1)))])) _
      refine XS.ifYes X82.here hx rfl (pc0 := 80) (pc' := 87) rfl (hb hby d4_80) rfl ((if0 _ _).trans (teq ((lw_eq v71 (0 : Int64)).mpr hc87)).1) (by decide) (by decide) ?_
      show Steps p.tables e below (T82.setTop (mkF m 87 #[.val (.ref a1), .val (.ref b1), .val (.int k1), .val (.long o1), .second, .val (.long v62), .second, .val (.long v67), .second, .val (.long (own_got (own_pend n1 k1) o1)), .second] [(.int (own_wait (own_left (own_pend n1 k1) o1)))])) _
      refine XS.iconst X82.here hx rfl (hb hby d4_87) ?_
      exact kt
    · simp only [if_neg hc87] at kt
      show Steps p.tables e below (T82.setTop (mkF m 80 #[.val (.ref a1), .val (.ref b1), .val (.int k1), .val (.long o1), .second, .val (.long v62), .second, .val (.long v67), .second, .val (.long (own_got (own_pend n1 k1) o1)), .second] [(.int (lcmpW v71 (0 : Int64))), (.int (own_wait (own_left (own_pend n1 k1) o1)))])) _
      refine XS.ifNo X82.here hx rfl (hb hby d4_80) rfl ((if0 _ _).trans (feq (fun q => hc87 ((lw_eq v71 (0 : Int64)).mp q))).1) ?_
      show Steps p.tables e below (T82.setTop (mkF m 83 #[.val (.ref a1), .val (.ref b1), .val (.int k1), .val (.long o1), .second, .val (.long v62), .second, .val (.long v67), .second, .val (.long (own_got (own_pend n1 k1) o1)), .second] [(.int (own_wait (own_left (own_pend n1 k1) o1)))])) _
      refine XS.iconst X82.here hx rfl (hb hby d4_83) ?_
      show Steps p.tables e below (T82.setTop (mkF m 84 #[.val (.ref a1), .val (.ref b1), .val (.int k1), .val (.long o1), .second, .val (.long v62), .second, .val (.long v67), .second, .val (.long (own_got (own_pend n1 k1) o1)), .second] [(.int (1 : Int32)), (.int (own_wait (own_left (own_pend n1 k1) o1)))])) _
      refine XS.goto X82.here hx rfl (pc0 := 84) (pc' := 88) rfl (hb hby d4_84) (by decide) (by decide) ?_
      exact kt
  have S90 : ∀ t, Steps p.tables e below (T82.setTop (mkF m 96 #[.val (.ref a1), .val (.ref b1), .val (.int k1), .val (.long o1), .second, .val (.long v62), .second, .val (.long v67), .second, .val (.long (own_got (own_pend n1 k1) o1)), .second] [(.int (1 : Int32))])) t → Steps p.tables e below (T82.setTop (mkF m 88 #[.val (.ref a1), .val (.ref b1), .val (.int k1), .val (.long o1), .second, .val (.long v62), .second, .val (.long v67), .second, .val (.long (own_got (own_pend n1 k1) o1)), .second] [(.int v89), (.int (own_wait (own_left (own_pend n1 k1) o1)))])) t := by
    intro t kt
    show Steps p.tables e below (T82.setTop (mkF m 88 #[.val (.ref a1), .val (.ref b1), .val (.int k1), .val (.long o1), .second, .val (.long v62), .second, .val (.long v67), .second, .val (.long (own_got (own_pend n1 k1) o1)), .second] [(.int v89), (.int (own_wait (own_left (own_pend n1 k1) o1)))])) _
    refine XS.icmpNo X82.here hx rfl (hb hby d4_88) rfl (teq (show own_wait (own_left (own_pend n1 k1) o1) = v89 from by rw [hv89, ← hl]; rfl)).2 ?_
    show Steps p.tables e below (T82.setTop (mkF m 91 #[.val (.ref a1), .val (.ref b1), .val (.int k1), .val (.long o1), .second, .val (.long v62), .second, .val (.long v67), .second, .val (.long (own_got (own_pend n1 k1) o1)), .second] [])) _
    refine XS.iconst X82.here hx rfl (hb hby d4_91) ?_
    show Steps p.tables e below (T82.setTop (mkF m 92 #[.val (.ref a1), .val (.ref b1), .val (.int k1), .val (.long o1), .second, .val (.long v62), .second, .val (.long v67), .second, .val (.long (own_got (own_pend n1 k1) o1)), .second] [(.int (1 : Int32))])) _
    refine XS.goto X82.here hx rfl (pc0 := 92) (pc' := 96) rfl (hb hby d4_92) (by decide) (by decide) ?_
    exact kt
  have C91 : ∀ t, Steps p.tables e below (T82.setTop (mkF m 96 #[.val (.ref a1), .val (.ref b1), .val (.int k1), .val (.long o1), .second, .val (.long v62), .second, .val (.long v67), .second, .val (.long (own_got (own_pend n1 k1) o1)), .second] [(.int (1 : Int32))])) t → Steps p.tables e below (s₁.setTop (mkF m 0 #[.val (.ref a1), .val (.ref b1), .val (.int k1), .val (.long o1), .second, .unset, .unset, .unset, .unset, .unset, .unset] [])) t := (fun t k => (S59 t (S61 t (S63 t (S66 t (S68 t (S70 t (st72 t (S77 t (st78.trans (S81 t (st82.trans (S84 t (S86 t (S88 t (S90 t k))))))))))))))))
  obtain ⟨fs, hr, hrun, hended, hW, hsame⟩ := X82.leave (v := some (.int (1 : Int32))) (fun h => by rw [Bd.returns] at h; cases h)
  refine ⟨_, _, pre0 _ (C91 _ ?_), hrun, hended, _, _, rfl, ?_, ⟨_, rfl⟩, hW, hsame.mono (by decide) (by decide)⟩
  · exact retN X82 hx (t := .boolean) Bd.returns (by simp) (hb hby d4_96) hr
  · show Q_rm4 Z a1 b1 k1 o1 n1 h0 n0 _ T82.heap _
    rw [e82]
    rw [hl] at f85
    exact ⟨rfl, N82, (((Keep.refl h0 [a1, b1]).wr W72 (Or.inl (List.mem_of_getElem? (i := 1) rfl))).trans K78q (allS (Or.inl (List.mem_of_getElem? (i := 0) rfl)) all0)), F79, f85⟩
theorem own_wide {n : Int64} {k : Int} (h : own_in n k) (hk : k ≤ 100) : own_in n 100 := ⟨h.1, Int.le_trans h.2 hk⟩
theorem ef_rm0 (m : MethodId) (x0 : Int32) (x1 : Int64) (x2 : Int64) (x3 : Int64) (x4 : Int64) : entryFrame m #[(.int x0), (.long x1), (.long x2), (.long x3), (.long x4)] maxLocals = mkF m 0 #[.val (.int x0), .val (.long x1), .second, .val (.long x2), .second, .val (.long x3), .second, .val (.long x4), .second, .unset, .unset, .unset] [] := by first | (simp [entryFrame, mkF, argsToLocals, Value.category, maxLocals]; done) | rfl
def Q_rm0 (Z : State) (fl : Int32) (o1 : Int64) (o2 : Int64) (o3 : Int64) (o4 : Int64) (h0 : Heap) (n0 : Nat) (v : Option Value) (h : Heap) (L : List Loc) : Prop := v = some (.int 1) ∧ Fr n0 L
set_option maxRecDepth 65536 in
set_option maxHeartbeats 40000000 in
theorem rm0 (l : Launch) (Z : State) (a0 : Array Value) (hw : ∀ d ∈ tables_1, d.before a0 Z = true) (ws : List Jvm.Cond) (fl : Int32) (o1 : Int64) (o2 : Int64) (o3 : Int64) (o4 : Int64) (h0 : Heap) (n0 : Nat) (Z0 : n0 ≤ h0.size)  :
    MetFree l x (head1 (Jvm.Cond.code x code maxLocals ret :: ws) room_1) (fun a U => a = #[(.int fl), (.long o1), (.long o2), (.long o3), (.long o4)] ∧ Z.Warmed39 U.vm ∧ U.heap = h0) (fun _ _ _ _ _ => True) (fun _ U o U' => ∃ v L, o = .returned v ∧ Q_rm0 Z fl o1 o2 o3 o4 h0 n0 v U'.heap L ∧ FrameEnd U o U' L room_1.cells room_1.slots) := by
  refine MetFree.of_bodySF (plainFor_of_name pn_1) hisR ?_
  intro p e s m args below meth c s₁ Bd hml0 hP hK
  obtain ⟨rfl, hZ, hh⟩ := hP
  have hx := Bd.exec
  have hby := Bd.bytes
  have hml : c.maxLocals = 12 := hml0
  have hown : s.vm.findClass "tidegate/operator/DropsCountPinLaw" = some m.cls := findClass_of_methodNamed Bd.named
  have hnm := (name_of_methodNamed Bd.named Bd.method).1
  have X0 : Stand p l e room_1 s m #[(.int fl), (.long o1), (.long o2), (.long o3), (.long o4)] below meth c s₁ [] 0 0 := Stand.of_body Bd
  have e0 : s₁.heap = h0 := by rw [← hh, Bd.state]; rfl
  have N0 := Fr.nil n0
  have pre0 : ∀ t, Steps p.tables e below (s₁.setTop (mkF m 0 #[.val (.int fl), .val (.long o1), .second, .val (.long o2), .second, .val (.long o3), .second, .val (.long o4), .second, .unset, .unset, .unset] [])) t → Steps p.tables e below (s₁.setTop (entryFrame m #[(.int fl), (.long o1), (.long o2), (.long o3), (.long o4)] maxLocals)) t := fun t k => castTop (ef_rm0 m fl o1 o2 o3 o4) k
  obtain ⟨T92, h92, X92, e92, E92, A92, D92, -, st92⟩ := newO X0 hx hZ hown (hw _ (List.mem_of_getElem? (i := 0) rfl)) (hw _ (List.mem_of_getElem? (i := 1) rfl)) (hw _ (List.mem_of_getElem? (i := 2) rfl)) e0 (g := (mkF m 0 #[.val (.int fl), .val (.long o1), .second, .val (.long o2), .second, .val (.long o3), .second, .val (.long o4), .second, .unset, .unset, .unset] [])) rfl (hb hby at_0) (by decide) (by decide)
  obtain ⟨b92, g92⟩ : ∃ z, z = h0.size := ⟨_, rfl⟩
  rw [← g92] at A92 D92 st92
  have g_b92 : n0 ≤ b92 := Nat.le_trans Z0 (Nat.le_of_eq g92.symm)
  have K93 := (Keep.refl h0 [])
  have sz_b92 : h0.size ≤ b92 := Nat.le_trans K93.1 (Nat.le_of_eq g92.symm)
  have z94 : n0 ≤ h92.size := Nat.le_trans Z0 E92.1
  have F95 : Fld Z h92 b92 "tidegate/operator/FilterOperator$Drops" "waiting" "J" (.long (0 : Int64)) := D92 (Or.inl (hw _ (List.mem_of_getElem? (i := 16) rfl))) (ty := .long) (by decide)
  have S96 : ∀ t, Steps p.tables e below (T92.setTop (mkF m 4 #[.val (.int fl), .val (.long o1), .second, .val (.long o2), .second, .val (.long o3), .second, .val (.long o4), .second, .unset, .unset, .unset] [(.ref b92), (.ref b92)])) t → Steps p.tables e below (T92.setTop (mkF m 3 #[.val (.int fl), .val (.long o1), .second, .val (.long o2), .second, .val (.long o3), .second, .val (.long o4), .second, .unset, .unset, .unset] [(.ref b92)])) t := by
    intro t kt
    show Steps p.tables e below (T92.setTop (mkF m 3 #[.val (.int fl), .val (.long o1), .second, .val (.long o2), .second, .val (.long o3), .second, .val (.long o4), .second, .unset, .unset, .unset] [(.ref b92)])) _
    refine XS.dup X92.here hx rfl (hb hby at_3) rfl rfl ?_
    exact kt
  obtain ⟨_, _, ⟨T97, L97, k97, n97⟩, -, X97, ⟨Lc97, hQ97, l97, y97, z97⟩, st97⟩ := X92.specialBack hx (y := (⟨"tidegate/operator/FilterOperator$Drops", "<init>", "()V"⟩ : MethodName)) rfl hown (mvT hZ (hw _ (List.mem_of_getElem? (i := 3) rfl))) (mvT hZ (hw _ (List.mem_of_getElem? (i := 4) rfl))) (mvT hZ (hw _ (List.mem_of_getElem? (i := 5) rfl))) (by decide) (backOf (W := 1) (rm1 l Z a0 hw [] b92 h92 n0 z94 ) hZ (hw _ (List.mem_of_getElem? (i := 5) rfl)) (hw _ (List.mem_of_getElem? (i := 2) rfl)) (by decide) (by decide)) (g := (mkF m 4 #[.val (.int fl), .val (.long o1), .second, .val (.long o2), .second, .val (.long o3), .second, .val (.long o4), .second, .unset, .unset, .unset] [(.ref b92), (.ref b92)])) rfl (by rw [hml]; rfl) (Steps.refl _) (a := b92) (argsL := []) (rest := [(.ref b92)]) (lenOf pd_2 rfl) rfl (by show 2 * 0 + _ ≤ _; exact Nat.le_of_eq rfl) (hb hby at_4) (fun _ _ => ⟨rfl, e92, (by decide : 1 + 0 ≤ _), (by decide : 1 + 0 ≤ _)⟩)
  dsimp only [Pt.U, Pt.locs, Pt.cells, Pt.slots] at X97 l97 y97 z97 st97 hQ97
  subst l97 y97 z97
  obtain ⟨rfl, N97q, e97⟩ := hQ97
  have N97 := Fr.app N0 N97q
  have S98 : ∀ t, Steps p.tables e below (T97.setTop (mkF m 10 #[.val (.int fl), .val (.long o1), .second, .val (.long o2), .second, .val (.long o3), .second, .val (.long o4), .second, .val (.ref b92), .unset, .unset] [(.int (1 : Int32))])) t → Steps p.tables e below (T97.setTop (mkF m 7 #[.val (.int fl), .val (.long o1), .second, .val (.long o2), .second, .val (.long o3), .second, .val (.long o4), .second, .unset, .unset, .unset] [(.ref b92)])) t := by
    intro t kt
    show Steps p.tables e below (T97.setTop (mkF m 7 #[.val (.int fl), .val (.long o1), .second, .val (.long o2), .second, .val (.long o3), .second, .val (.long o4), .second, .unset, .unset, .unset] [(.ref b92)])) _
    refine XS.astore X97.here hx rfl (hb hby at_7) rfl rfl (l' := #[.val (.int fl), .val (.long o1), .second, .val (.long o2), .second, .val (.long o3), .second, .val (.long o4), .second, .val (.ref b92), .unset, .unset]) rfl ?_
    show Steps p.tables e below (T97.setTop (mkF m 9 #[.val (.int fl), .val (.long o1), .second, .val (.long o2), .second, .val (.long o3), .second, .val (.long o4), .second, .val (.ref b92), .unset, .unset] [])) _
    refine XS.iconst X97.here hx rfl (hb hby at_9) ?_
    exact kt
  obtain ⟨T99, h99, k99, X99, e99, E99, A99, st99⟩ := newP X97 hx hZ (hw _ (List.mem_of_getElem? (i := 9) rfl)) e97 (g := (mkF m 10 #[.val (.int fl), .val (.long o1), .second, .val (.long o2), .second, .val (.long o3), .second, .val (.long o4), .second, .val (.ref b92), .unset, .unset] [(.int (1 : Int32))])) rfl (hb hby at_10) rfl (by decide) (cap := 1) (by decide) (by decide) (by decide) (by decide)
  obtain ⟨b99, g99⟩ : ∃ z, z = h92.size := ⟨_, rfl⟩
  rw [← g99] at A99 st99
  have g_b99 : n0 ≤ b99 := Nat.le_trans z94 (Nat.le_of_eq g99.symm)
  have K100 := (K93.ext E92)
  have sz_b99 : h0.size ≤ b99 := Nat.le_trans K100.1 (Nat.le_of_eq g99.symm)
  have ne_b92_b99 : b92 ≠ b99 := Nat.ne_of_lt (Nat.lt_of_lt_of_le A92.lt (Nat.le_of_eq g99.symm))
  have z101 : n0 ≤ h99.size := Nat.le_trans z94 E99.1
  have V99 : ArF Z h99 b99 .long 1 (fun _ => (.long (0 : Int64))) := ArF.new A99 (by decide) rfl
  have f102 := (F95.ext E99)
  have S103 : ∀ t, Steps p.tables e below (T99.setTop (mkF m 16 #[.val (.int fl), .val (.long o1), .second, .val (.long o2), .second, .val (.long o3), .second, .val (.long o4), .second, .val (.ref b92), .val (.ref b99), .unset] [(.ref b92)])) t → Steps p.tables e below (T99.setTop (mkF m 12 #[.val (.int fl), .val (.long o1), .second, .val (.long o2), .second, .val (.long o3), .second, .val (.long o4), .second, .val (.ref b92), .unset, .unset] [(.ref b99)])) t := by
    intro t kt
    show Steps p.tables e below (T99.setTop (mkF m 12 #[.val (.int fl), .val (.long o1), .second, .val (.long o2), .second, .val (.long o3), .second, .val (.long o4), .second, .val (.ref b92), .unset, .unset] [(.ref b99)])) _
    refine XS.astore X99.here hx rfl (hb hby at_12) rfl rfl (l' := #[.val (.int fl), .val (.long o1), .second, .val (.long o2), .second, .val (.long o3), .second, .val (.long o4), .second, .val (.ref b92), .val (.ref b99), .unset]) rfl ?_
    show Steps p.tables e below (T99.setTop (mkF m 14 #[.val (.int fl), .val (.long o1), .second, .val (.long o2), .second, .val (.long o3), .second, .val (.long o4), .second, .val (.ref b92), .val (.ref b99), .unset] [])) _
    refine XS.aload X99.here hx rfl (hb hby at_14) rfl rfl ?_
    exact kt
  have f105 := (A92.ext E99)
  obtain ⟨cq104, kq104, q104a, q104b, q104c⟩ := isOf hZ e99 f105
  obtain ⟨_, _, ⟨T104, L104, k104, n104⟩, -, X104, ⟨Lc104, hQ104, l104, y104, z104⟩, st104⟩ := X99.virtualBack hx (y := (⟨"tidegate/operator/FilterOperator$Drops", "waiting", "()Z"⟩ : MethodName)) (z := (⟨"tidegate/operator/FilterOperator$Drops", "waiting", "()Z"⟩ : MethodName)) hown (mvT hZ (hw _ (List.mem_of_getElem? (i := 10) rfl))) (mvT hZ (hw _ (List.mem_of_getElem? (i := 11) rfl))) (notFace_of_selects (args := #[]) (mvT hZ (hw _ (List.mem_of_getElem? (i := 13) rfl)))) (mvT hZ (hw _ (List.mem_of_getElem? (i := 13) rfl))) (mvT hZ (hw _ (List.mem_of_getElem? (i := 12) rfl))) (by decide) (backOf (W := 0) (rm3 l Z a0 hw [] b92 (0 : Int64) h99 n0 z101 f102) hZ (hw _ (List.mem_of_getElem? (i := 14) rfl)) (hw _ (List.mem_of_getElem? (i := 2) rfl)) (by decide) (by decide)) q104a q104c (g := (mkF m 16 #[.val (.int fl), .val (.long o1), .second, .val (.long o2), .second, .val (.long o3), .second, .val (.long o4), .second, .val (.ref b92), .val (.ref b99), .unset] [(.ref b92)])) rfl (by rw [hml]; rfl) (Steps.refl _) (argsL := []) (rest := []) (lenOf pd_1 rfl) rfl (by show 2 * 0 + _ ≤ _; exact Nat.le_of_eq rfl) (hb hby at_16) (fun _ _ => ⟨rfl, e99, (by decide : 2 + 0 ≤ _), (by decide : 2 + 0 ≤ _)⟩)
  dsimp only [Pt.U, Pt.locs, Pt.cells, Pt.slots] at X104 l104 y104 z104 st104 hQ104
  subst l104 y104 z104
  obtain ⟨rfl, N104q, e104⟩ := hQ104
  have N104 := Fr.app N97 N104q
  have S106 : ∀ t, Steps p.tables e below (T104.setTop (mkF m 19 #[.val (.int fl), .val (.long o1), .second, .val (.long o2), .second, .val (.long o3), .second, .val (.long o4), .second, .val (.ref b92), .val (.ref b99), .unset] [(.int (0 : Int32))])) t → Steps p.tables e below (T104.setTop (mkF m 19 #[.val (.int fl), .val (.long o1), .second, .val (.long o2), .second, .val (.long o3), .second, .val (.long o4), .second, .val (.ref b92), .val (.ref b99), .unset] [(.int (own_wait 0))])) t := fun t k => by rw [own_wait0]; exact k
  have hn0 : own_in (0 : Int64) 0 := by unfold own_in; decide
  have S107 : ∀ t, Steps p.tables e below (T104.setTop (mkF m 41 #[.val (.int fl), .val (.long o1), .second, .val (.long o2), .second, .val (.long o3), .second, .val (.long o4), .second, .val (.ref b92), .val (.ref b99), .val (.int (1 : Int32))] [(.int (fl &&& (1 : Int32))), (.ref b99), (.ref b92)])) t → Steps p.tables e below (T104.setTop (mkF m 19 #[.val (.int fl), .val (.long o1), .second, .val (.long o2), .second, .val (.long o3), .second, .val (.long o4), .second, .val (.ref b92), .val (.ref b99), .unset] [(.int (0 : Int32))])) t := by
    intro t kt
    show Steps p.tables e below (T104.setTop (mkF m 19 #[.val (.int fl), .val (.long o1), .second, .val (.long o2), .second, .val (.long o3), .second, .val (.long o4), .second, .val (.ref b92), .val (.ref b99), .unset] [(.int (0 : Int32))])) _
    refine XS.ifNo X104.here hx rfl (hb hby at_19) rfl ((if0 _ _).trans (teq rfl).2) ?_
    show Steps p.tables e below (T104.setTop (mkF m 22 #[.val (.int fl), .val (.long o1), .second, .val (.long o2), .second, .val (.long o3), .second, .val (.long o4), .second, .val (.ref b92), .val (.ref b99), .unset] [])) _
    refine XS.iconst X104.here hx rfl (hb hby at_22) ?_
    show Steps p.tables e below (T104.setTop (mkF m 23 #[.val (.int fl), .val (.long o1), .second, .val (.long o2), .second, .val (.long o3), .second, .val (.long o4), .second, .val (.ref b92), .val (.ref b99), .unset] [(.int (1 : Int32))])) _
    refine XS.goto X104.here hx rfl (pc0 := 23) (pc' := 27) rfl (hb hby at_23) (by decide) (by decide) ?_
    show Steps p.tables e below (T104.setTop (mkF m 27 #[.val (.int fl), .val (.long o1), .second, .val (.long o2), .second, .val (.long o3), .second, .val (.long o4), .second, .val (.ref b92), .val (.ref b99), .unset] [(.int (1 : Int32))])) _
    refine XS.istore X104.here hx rfl (hb hby at_27) rfl (l' := #[.val (.int fl), .val (.long o1), .second, .val (.long o2), .second, .val (.long o3), .second, .val (.long o4), .second, .val (.ref b92), .val (.ref b99), .val (.int (1 : Int32))]) rfl ?_
    show Steps p.tables e below (T104.setTop (mkF m 29 #[.val (.int fl), .val (.long o1), .second, .val (.long o2), .second, .val (.long o3), .second, .val (.long o4), .second, .val (.ref b92), .val (.ref b99), .val (.int (1 : Int32))] [])) _
    refine XS.iload X104.here hx rfl (hb hby at_29) rfl ?_
    show Steps p.tables e below (T104.setTop (mkF m 31 #[.val (.int fl), .val (.long o1), .second, .val (.long o2), .second, .val (.long o3), .second, .val (.long o4), .second, .val (.ref b92), .val (.ref b99), .val (.int (1 : Int32))] [(.int (1 : Int32))])) _
    refine XS.ifNo X104.here hx rfl (hb hby at_31) rfl ((if0 _ _).trans (feq (by decide)).1) ?_
    show Steps p.tables e below (T104.setTop (mkF m 34 #[.val (.int fl), .val (.long o1), .second, .val (.long o2), .second, .val (.long o3), .second, .val (.long o4), .second, .val (.ref b92), .val (.ref b99), .val (.int (1 : Int32))] [])) _
    refine XS.aload X104.here hx rfl (hb hby at_34) rfl rfl ?_
    show Steps p.tables e below (T104.setTop (mkF m 36 #[.val (.int fl), .val (.long o1), .second, .val (.long o2), .second, .val (.long o3), .second, .val (.long o4), .second, .val (.ref b92), .val (.ref b99), .val (.int (1 : Int32))] [(.ref b92)])) _
    refine XS.aload X104.here hx rfl (hb hby at_36) rfl rfl ?_
    show Steps p.tables e below (T104.setTop (mkF m 38 #[.val (.int fl), .val (.long o1), .second, .val (.long o2), .second, .val (.long o3), .second, .val (.long o4), .second, .val (.ref b92), .val (.ref b99), .val (.int (1 : Int32))] [(.ref b99), (.ref b92)])) _
    refine XS.iloadN X104.here hx rfl (hb hby at_38) rfl ?_
    show Steps p.tables e below (T104.setTop (mkF m 39 #[.val (.int fl), .val (.long o1), .second, .val (.long o2), .second, .val (.long o3), .second, .val (.long o4), .second, .val (.ref b92), .val (.ref b99), .val (.int (1 : Int32))] [(.int fl), (.ref b99), (.ref b92)])) _
    refine XS.iconst X104.here hx rfl (hb hby at_39) ?_
    show Steps p.tables e below (T104.setTop (mkF m 40 #[.val (.int fl), .val (.long o1), .second, .val (.long o2), .second, .val (.long o3), .second, .val (.long o4), .second, .val (.ref b92), .val (.ref b99), .val (.int (1 : Int32))] [(.int (1 : Int32)), (.int fl), (.ref b99), (.ref b92)])) _
    refine XS.iand X104.here hx rfl (hb hby at_40) rfl ?_
    exact kt
  obtain ⟨v110, hv110⟩ : ∃ z : Int32, z = (if (fl &&& (1 : Int32)) = (0 : Int32) then (0 : Int32) else (1 : Int32)) := ⟨_, rfl⟩
  have S109 : ∀ t, Steps p.tables e below (T104.setTop (mkF m 49 #[.val (.int fl), .val (.long o1), .second, .val (.long o2), .second, .val (.long o3), .second, .val (.long o4), .second, .val (.ref b92), .val (.ref b99), .val (.int (1 : Int32))] [(.int v110), (.ref b99), (.ref b92)])) t → Steps p.tables e below (T104.setTop (mkF m 41 #[.val (.int fl), .val (.long o1), .second, .val (.long o2), .second, .val (.long o3), .second, .val (.long o4), .second, .val (.ref b92), .val (.ref b99), .val (.int (1 : Int32))] [(.int (fl &&& (1 : Int32))), (.ref b99), (.ref b92)])) t := by
    intro t kt
    subst hv110
    by_cases hc108 : (fl &&& (1 : Int32)) = (0 : Int32)
    · simp only [if_pos hc108] at kt
      show Steps p.tables e below (T104.setTop (mkF m 41 #[.val (.int fl), .val (.long o1), .second, .val (.long o2), .second, .val (.long o3), .second, .val (.long o4), .second, .val (.ref b92), .val (.ref b99), .val (.int (1 : Int32))] [(.int (fl &&& (1 : Int32))), (.ref b99), (.ref b92)])) _
      refine XS.ifYes X104.here hx rfl (pc0 := 41) (pc' := 48) rfl (hb hby at_41) rfl ((if0 _ _).trans (teq hc108).1) (by decide) (by decide) ?_
      show Steps p.tables e below (T104.setTop (mkF m 48 #[.val (.int fl), .val (.long o1), .second, .val (.long o2), .second, .val (.long o3), .second, .val (.long o4), .second, .val (.ref b92), .val (.ref b99), .val (.int (1 : Int32))] [(.ref b99), (.ref b92)])) _
      refine XS.iconst X104.here hx rfl (hb hby at_48) ?_
      exact kt
    · simp only [if_neg hc108] at kt
      show Steps p.tables e below (T104.setTop (mkF m 41 #[.val (.int fl), .val (.long o1), .second, .val (.long o2), .second, .val (.long o3), .second, .val (.long o4), .second, .val (.ref b92), .val (.ref b99), .val (.int (1 : Int32))] [(.int (fl &&& (1 : Int32))), (.ref b99), (.ref b92)])) _
      refine XS.ifNo X104.here hx rfl (hb hby at_41) rfl ((if0 _ _).trans (feq hc108).1) ?_
      show Steps p.tables e below (T104.setTop (mkF m 44 #[.val (.int fl), .val (.long o1), .second, .val (.long o2), .second, .val (.long o3), .second, .val (.long o4), .second, .val (.ref b92), .val (.ref b99), .val (.int (1 : Int32))] [(.ref b99), (.ref b92)])) _
      refine XS.iconst X104.here hx rfl (hb hby at_44) ?_
      show Steps p.tables e below (T104.setTop (mkF m 45 #[.val (.int fl), .val (.long o1), .second, .val (.long o2), .second, .val (.long o3), .second, .val (.long o4), .second, .val (.ref b92), .val (.ref b99), .val (.int (1 : Int32))] [(.int (1 : Int32)), (.ref b99), (.ref b92)])) _
      refine XS.goto X104.here hx rfl (pc0 := 45) (pc' := 49) rfl (hb hby at_45) (by decide) (by decide) ?_
      exact kt
  have S111 : ∀ t, Steps p.tables e below (T104.setTop (mkF m 50 #[.val (.int fl), .val (.long o1), .second, .val (.long o2), .second, .val (.long o3), .second, .val (.long o4), .second, .val (.ref b92), .val (.ref b99), .val (.int (1 : Int32))] [(.long o1), (.int v110), (.ref b99), (.ref b92)])) t → Steps p.tables e below (T104.setTop (mkF m 49 #[.val (.int fl), .val (.long o1), .second, .val (.long o2), .second, .val (.long o3), .second, .val (.long o4), .second, .val (.ref b92), .val (.ref b99), .val (.int (1 : Int32))] [(.int v110), (.ref b99), (.ref b92)])) t := by
    intro t kt
    show Steps p.tables e below (T104.setTop (mkF m 49 #[.val (.int fl), .val (.long o1), .second, .val (.long o2), .second, .val (.long o3), .second, .val (.long o4), .second, .val (.ref b92), .val (.ref b99), .val (.int (1 : Int32))] [(.int v110), (.ref b99), (.ref b92)])) _
    refine XS.lloadN X104.here hx rfl (hb hby at_49) rfl ?_
    exact kt
  obtain ⟨_, _, ⟨T112, L112, k112, n112⟩, -, X112, ⟨Lc112, hQ112, l112, y112, z112⟩, st112⟩ := Jvm.LawKit.callS X104 hx (y := (⟨"tidegate/operator/DropsCountPinLaw", "check", "(Ltidegate/operator/FilterOperator$Drops;[JZJ)Z"⟩ : MethodName)) hown (mvT hZ (hw _ (List.mem_of_getElem? (i := 17) rfl))) (mvT hZ (hw _ (List.mem_of_getElem? (i := 18) rfl))) (mvT hZ (hw _ (List.mem_of_getElem? (i := 19) rfl))) (mvT hZ (hw _ (List.mem_of_getElem? (i := 20) rfl))) (by decide) (backOf (W := 0) (rm4 l Z a0 hw [] b92 b99 v110 o1 (0 : Int64) h99 n0 z101 f105 f102 V99 g_b92 g_b99 ne_b92_b99 (own_wide hn0 (by decide))) hZ (hw _ (List.mem_of_getElem? (i := 20) rfl)) (hw _ (List.mem_of_getElem? (i := 19) rfl)) (by decide) (by decide)) (g := (mkF m 50 #[.val (.int fl), .val (.long o1), .second, .val (.long o2), .second, .val (.long o3), .second, .val (.long o4), .second, .val (.ref b92), .val (.ref b99), .val (.int (1 : Int32))] [(.long o1), (.int v110), (.ref b99), (.ref b92)])) rfl (by rw [hml]; rfl) (argsL := [(.ref b92), (.ref b99), (.int v110), (.long o1)]) (rest := []) (lenOf pd_3 rfl) rfl (by show 2 * 0 + _ ≤ _; exact Nat.le_of_eq rfl) (hb hby at_50) (fun _ _ => ⟨rfl, e104, (by decide : 2 + 0 ≤ _), (by decide : 2 + 0 ≤ _)⟩)
  dsimp only [Pt.U, Pt.locs, Pt.cells, Pt.slots] at X112 l112 y112 z112 st112 hQ112
  subst l112 y112 z112
  obtain ⟨h112, e112⟩ : ∃ z, T112.heap = z := ⟨_, rfl⟩
  rw [e112] at hQ112
  obtain ⟨rfl, N112q, K112q, F113, F114⟩ := hQ112
  have z115 : n0 ≤ h112.size := Nat.le_trans z101 K112q.1
  have N112 := Fr.app N104 N112q
  obtain ⟨n116, hn116⟩ : ∃ z : Int64, z = (own_left (own_pend (0 : Int64) v110) o1) := ⟨_, rfl⟩
  rw [← hn116] at F113 F114
  have hn1 : own_in n116 1 := by rw [hn116]; exact own_left_in (own_pend_in hn0 (by decide) _) _
  have S117 : ∀ t, Steps p.tables e below (T112.setTop (mkF m 75 #[.val (.int fl), .val (.long o1), .second, .val (.long o2), .second, .val (.long o3), .second, .val (.long o4), .second, .val (.ref b92), .val (.ref b99), .val (.int (1 : Int32))] [(.int (fl &&& (2 : Int32))), (.ref b99), (.ref b92)])) t → Steps p.tables e below (T112.setTop (mkF m 53 #[.val (.int fl), .val (.long o1), .second, .val (.long o2), .second, .val (.long o3), .second, .val (.long o4), .second, .val (.ref b92), .val (.ref b99), .val (.int (1 : Int32))] [(.int (1 : Int32))])) t := by
    intro t kt
    show Steps p.tables e below (T112.setTop (mkF m 53 #[.val (.int fl), .val (.long o1), .second, .val (.long o2), .second, .val (.long o3), .second, .val (.long o4), .second, .val (.ref b92), .val (.ref b99), .val (.int (1 : Int32))] [(.int (1 : Int32))])) _
    refine XS.ifNo X112.here hx rfl (hb hby at_53) rfl ((if0 _ _).trans (feq (by decide)).1) ?_
    show Steps p.tables e below (T112.setTop (mkF m 56 #[.val (.int fl), .val (.long o1), .second, .val (.long o2), .second, .val (.long o3), .second, .val (.long o4), .second, .val (.ref b92), .val (.ref b99), .val (.int (1 : Int32))] [])) _
    refine XS.iconst X112.here hx rfl (hb hby at_56) ?_
    show Steps p.tables e below (T112.setTop (mkF m 57 #[.val (.int fl), .val (.long o1), .second, .val (.long o2), .second, .val (.long o3), .second, .val (.long o4), .second, .val (.ref b92), .val (.ref b99), .val (.int (1 : Int32))] [(.int (1 : Int32))])) _
    refine XS.goto X112.here hx rfl (pc0 := 57) (pc' := 61) rfl (hb hby at_57) (by decide) (by decide) ?_
    show Steps p.tables e below (T112.setTop (mkF m 61 #[.val (.int fl), .val (.long o1), .second, .val (.long o2), .second, .val (.long o3), .second, .val (.long o4), .second, .val (.ref b92), .val (.ref b99), .val (.int (1 : Int32))] [(.int (1 : Int32))])) _
    refine XS.istore X112.here hx rfl (hb hby at_61) rfl (l' := #[.val (.int fl), .val (.long o1), .second, .val (.long o2), .second, .val (.long o3), .second, .val (.long o4), .second, .val (.ref b92), .val (.ref b99), .val (.int (1 : Int32))]) rfl ?_
    show Steps p.tables e below (T112.setTop (mkF m 63 #[.val (.int fl), .val (.long o1), .second, .val (.long o2), .second, .val (.long o3), .second, .val (.long o4), .second, .val (.ref b92), .val (.ref b99), .val (.int (1 : Int32))] [])) _
    refine XS.iload X112.here hx rfl (hb hby at_63) rfl ?_
    show Steps p.tables e below (T112.setTop (mkF m 65 #[.val (.int fl), .val (.long o1), .second, .val (.long o2), .second, .val (.long o3), .second, .val (.long o4), .second, .val (.ref b92), .val (.ref b99), .val (.int (1 : Int32))] [(.int (1 : Int32))])) _
    refine XS.ifNo X112.here hx rfl (hb hby at_65) rfl ((if0 _ _).trans (feq (by decide)).1) ?_
    show Steps p.tables e below (T112.setTop (mkF m 68 #[.val (.int fl), .val (.long o1), .second, .val (.long o2), .second, .val (.long o3), .second, .val (.long o4), .second, .val (.ref b92), .val (.ref b99), .val (.int (1 : Int32))] [])) _
    refine XS.aload X112.here hx rfl (hb hby at_68) rfl rfl ?_
    show Steps p.tables e below (T112.setTop (mkF m 70 #[.val (.int fl), .val (.long o1), .second, .val (.long o2), .second, .val (.long o3), .second, .val (.long o4), .second, .val (.ref b92), .val (.ref b99), .val (.int (1 : Int32))] [(.ref b92)])) _
    refine XS.aload X112.here hx rfl (hb hby at_70) rfl rfl ?_
    show Steps p.tables e below (T112.setTop (mkF m 72 #[.val (.int fl), .val (.long o1), .second, .val (.long o2), .second, .val (.long o3), .second, .val (.long o4), .second, .val (.ref b92), .val (.ref b99), .val (.int (1 : Int32))] [(.ref b99), (.ref b92)])) _
    refine XS.iloadN X112.here hx rfl (hb hby at_72) rfl ?_
    show Steps p.tables e below (T112.setTop (mkF m 73 #[.val (.int fl), .val (.long o1), .second, .val (.long o2), .second, .val (.long o3), .second, .val (.long o4), .second, .val (.ref b92), .val (.ref b99), .val (.int (1 : Int32))] [(.int fl), (.ref b99), (.ref b92)])) _
    refine XS.iconst X112.here hx rfl (hb hby at_73) ?_
    show Steps p.tables e below (T112.setTop (mkF m 74 #[.val (.int fl), .val (.long o1), .second, .val (.long o2), .second, .val (.long o3), .second, .val (.long o4), .second, .val (.ref b92), .val (.ref b99), .val (.int (1 : Int32))] [(.int (2 : Int32)), (.int fl), (.ref b99), (.ref b92)])) _
    refine XS.iand X112.here hx rfl (hb hby at_74) rfl ?_
    exact kt
  obtain ⟨v120, hv120⟩ : ∃ z : Int32, z = (if (fl &&& (2 : Int32)) = (0 : Int32) then (0 : Int32) else (1 : Int32)) := ⟨_, rfl⟩
  have S119 : ∀ t, Steps p.tables e below (T112.setTop (mkF m 83 #[.val (.int fl), .val (.long o1), .second, .val (.long o2), .second, .val (.long o3), .second, .val (.long o4), .second, .val (.ref b92), .val (.ref b99), .val (.int (1 : Int32))] [(.int v120), (.ref b99), (.ref b92)])) t → Steps p.tables e below (T112.setTop (mkF m 75 #[.val (.int fl), .val (.long o1), .second, .val (.long o2), .second, .val (.long o3), .second, .val (.long o4), .second, .val (.ref b92), .val (.ref b99), .val (.int (1 : Int32))] [(.int (fl &&& (2 : Int32))), (.ref b99), (.ref b92)])) t := by
    intro t kt
    subst hv120
    by_cases hc118 : (fl &&& (2 : Int32)) = (0 : Int32)
    · simp only [if_pos hc118] at kt
      show Steps p.tables e below (T112.setTop (mkF m 75 #[.val (.int fl), .val (.long o1), .second, .val (.long o2), .second, .val (.long o3), .second, .val (.long o4), .second, .val (.ref b92), .val (.ref b99), .val (.int (1 : Int32))] [(.int (fl &&& (2 : Int32))), (.ref b99), (.ref b92)])) _
      refine XS.ifYes X112.here hx rfl (pc0 := 75) (pc' := 82) rfl (hb hby at_75) rfl ((if0 _ _).trans (teq hc118).1) (by decide) (by decide) ?_
      show Steps p.tables e below (T112.setTop (mkF m 82 #[.val (.int fl), .val (.long o1), .second, .val (.long o2), .second, .val (.long o3), .second, .val (.long o4), .second, .val (.ref b92), .val (.ref b99), .val (.int (1 : Int32))] [(.ref b99), (.ref b92)])) _
      refine XS.iconst X112.here hx rfl (hb hby at_82) ?_
      exact kt
    · simp only [if_neg hc118] at kt
      show Steps p.tables e below (T112.setTop (mkF m 75 #[.val (.int fl), .val (.long o1), .second, .val (.long o2), .second, .val (.long o3), .second, .val (.long o4), .second, .val (.ref b92), .val (.ref b99), .val (.int (1 : Int32))] [(.int (fl &&& (2 : Int32))), (.ref b99), (.ref b92)])) _
      refine XS.ifNo X112.here hx rfl (hb hby at_75) rfl ((if0 _ _).trans (feq hc118).1) ?_
      show Steps p.tables e below (T112.setTop (mkF m 78 #[.val (.int fl), .val (.long o1), .second, .val (.long o2), .second, .val (.long o3), .second, .val (.long o4), .second, .val (.ref b92), .val (.ref b99), .val (.int (1 : Int32))] [(.ref b99), (.ref b92)])) _
      refine XS.iconst X112.here hx rfl (hb hby at_78) ?_
      show Steps p.tables e below (T112.setTop (mkF m 79 #[.val (.int fl), .val (.long o1), .second, .val (.long o2), .second, .val (.long o3), .second, .val (.long o4), .second, .val (.ref b92), .val (.ref b99), .val (.int (1 : Int32))] [(.int (1 : Int32)), (.ref b99), (.ref b92)])) _
      refine XS.goto X112.here hx rfl (pc0 := 79) (pc' := 83) rfl (hb hby at_79) (by decide) (by decide) ?_
      exact kt
  have f121 := (f105.keep K112q)
  have S122 : ∀ t, Steps p.tables e below (T112.setTop (mkF m 84 #[.val (.int fl), .val (.long o1), .second, .val (.long o2), .second, .val (.long o3), .second, .val (.long o4), .second, .val (.ref b92), .val (.ref b99), .val (.int (1 : Int32))] [(.long o2), (.int v120), (.ref b99), (.ref b92)])) t → Steps p.tables e below (T112.setTop (mkF m 83 #[.val (.int fl), .val (.long o1), .second, .val (.long o2), .second, .val (.long o3), .second, .val (.long o4), .second, .val (.ref b92), .val (.ref b99), .val (.int (1 : Int32))] [(.int v120), (.ref b99), (.ref b92)])) t := by
    intro t kt
    show Steps p.tables e below (T112.setTop (mkF m 83 #[.val (.int fl), .val (.long o1), .second, .val (.long o2), .second, .val (.long o3), .second, .val (.long o4), .second, .val (.ref b92), .val (.ref b99), .val (.int (1 : Int32))] [(.int v120), (.ref b99), (.ref b92)])) _
    refine XS.lloadN X112.here hx rfl (hb hby at_83) rfl ?_
    exact kt
  obtain ⟨_, _, ⟨T123, L123, k123, n123⟩, -, X123, ⟨Lc123, hQ123, l123, y123, z123⟩, st123⟩ := Jvm.LawKit.callS X112 hx (y := (⟨"tidegate/operator/DropsCountPinLaw", "check", "(Ltidegate/operator/FilterOperator$Drops;[JZJ)Z"⟩ : MethodName)) hown (mvT hZ (hw _ (List.mem_of_getElem? (i := 17) rfl))) (mvT hZ (hw _ (List.mem_of_getElem? (i := 18) rfl))) (mvT hZ (hw _ (List.mem_of_getElem? (i := 19) rfl))) (mvT hZ (hw _ (List.mem_of_getElem? (i := 20) rfl))) (by decide) (backOf (W := 0) (rm4 l Z a0 hw [] b92 b99 v120 o2 n116 h112 n0 z115 f121 F113 F114 g_b92 g_b99 ne_b92_b99 (own_wide hn1 (by decide))) hZ (hw _ (List.mem_of_getElem? (i := 20) rfl)) (hw _ (List.mem_of_getElem? (i := 19) rfl)) (by decide) (by decide)) (g := (mkF m 84 #[.val (.int fl), .val (.long o1), .second, .val (.long o2), .second, .val (.long o3), .second, .val (.long o4), .second, .val (.ref b92), .val (.ref b99), .val (.int (1 : Int32))] [(.long o2), (.int v120), (.ref b99), (.ref b92)])) rfl (by rw [hml]; rfl) (argsL := [(.ref b92), (.ref b99), (.int v120), (.long o2)]) (rest := []) (lenOf pd_3 rfl) rfl (by show 2 * 0 + _ ≤ _; exact Nat.le_of_eq rfl) (hb hby at_84) (fun _ _ => ⟨rfl, e112, (by decide : 2 + 0 ≤ _), (by decide : 2 + 0 ≤ _)⟩)
  dsimp only [Pt.U, Pt.locs, Pt.cells, Pt.slots] at X123 l123 y123 z123 st123 hQ123
  subst l123 y123 z123
  obtain ⟨h123, e123⟩ : ∃ z, T123.heap = z := ⟨_, rfl⟩
  rw [e123] at hQ123
  obtain ⟨rfl, N123q, K123q, F124, F125⟩ := hQ123
  have z126 : n0 ≤ h123.size := Nat.le_trans z115 K123q.1
  have N123 := Fr.app N112 N123q
  obtain ⟨n127, hn127⟩ : ∃ z : Int64, z = (own_left (own_pend n116 v120) o2) := ⟨_, rfl⟩
  rw [← hn127] at F124 F125
  have hn2 : own_in n127 2 := by rw [hn127]; exact own_left_in (own_pend_in hn1 (by decide) _) _
  have S128 : ∀ t, Steps p.tables e below (T123.setTop (mkF m 109 #[.val (.int fl), .val (.long o1), .second, .val (.long o2), .second, .val (.long o3), .second, .val (.long o4), .second, .val (.ref b92), .val (.ref b99), .val (.int (1 : Int32))] [(.int (fl &&& (4 : Int32))), (.ref b99), (.ref b92)])) t → Steps p.tables e below (T123.setTop (mkF m 87 #[.val (.int fl), .val (.long o1), .second, .val (.long o2), .second, .val (.long o3), .second, .val (.long o4), .second, .val (.ref b92), .val (.ref b99), .val (.int (1 : Int32))] [(.int (1 : Int32))])) t := by
    intro t kt
    show Steps p.tables e below (T123.setTop (mkF m 87 #[.val (.int fl), .val (.long o1), .second, .val (.long o2), .second, .val (.long o3), .second, .val (.long o4), .second, .val (.ref b92), .val (.ref b99), .val (.int (1 : Int32))] [(.int (1 : Int32))])) _
    refine XS.ifNo X123.here hx rfl (hb hby at_87) rfl ((if0 _ _).trans (feq (by decide)).1) ?_
    show Steps p.tables e below (T123.setTop (mkF m 90 #[.val (.int fl), .val (.long o1), .second, .val (.long o2), .second, .val (.long o3), .second, .val (.long o4), .second, .val (.ref b92), .val (.ref b99), .val (.int (1 : Int32))] [])) _
    refine XS.iconst X123.here hx rfl (hb hby at_90) ?_
    show Steps p.tables e below (T123.setTop (mkF m 91 #[.val (.int fl), .val (.long o1), .second, .val (.long o2), .second, .val (.long o3), .second, .val (.long o4), .second, .val (.ref b92), .val (.ref b99), .val (.int (1 : Int32))] [(.int (1 : Int32))])) _
    refine XS.goto X123.here hx rfl (pc0 := 91) (pc' := 95) rfl (hb hby at_91) (by decide) (by decide) ?_
    show Steps p.tables e below (T123.setTop (mkF m 95 #[.val (.int fl), .val (.long o1), .second, .val (.long o2), .second, .val (.long o3), .second, .val (.long o4), .second, .val (.ref b92), .val (.ref b99), .val (.int (1 : Int32))] [(.int (1 : Int32))])) _
    refine XS.istore X123.here hx rfl (hb hby at_95) rfl (l' := #[.val (.int fl), .val (.long o1), .second, .val (.long o2), .second, .val (.long o3), .second, .val (.long o4), .second, .val (.ref b92), .val (.ref b99), .val (.int (1 : Int32))]) rfl ?_
    show Steps p.tables e below (T123.setTop (mkF m 97 #[.val (.int fl), .val (.long o1), .second, .val (.long o2), .second, .val (.long o3), .second, .val (.long o4), .second, .val (.ref b92), .val (.ref b99), .val (.int (1 : Int32))] [])) _
    refine XS.iload X123.here hx rfl (hb hby at_97) rfl ?_
    show Steps p.tables e below (T123.setTop (mkF m 99 #[.val (.int fl), .val (.long o1), .second, .val (.long o2), .second, .val (.long o3), .second, .val (.long o4), .second, .val (.ref b92), .val (.ref b99), .val (.int (1 : Int32))] [(.int (1 : Int32))])) _
    refine XS.ifNo X123.here hx rfl (hb hby at_99) rfl ((if0 _ _).trans (feq (by decide)).1) ?_
    show Steps p.tables e below (T123.setTop (mkF m 102 #[.val (.int fl), .val (.long o1), .second, .val (.long o2), .second, .val (.long o3), .second, .val (.long o4), .second, .val (.ref b92), .val (.ref b99), .val (.int (1 : Int32))] [])) _
    refine XS.aload X123.here hx rfl (hb hby at_102) rfl rfl ?_
    show Steps p.tables e below (T123.setTop (mkF m 104 #[.val (.int fl), .val (.long o1), .second, .val (.long o2), .second, .val (.long o3), .second, .val (.long o4), .second, .val (.ref b92), .val (.ref b99), .val (.int (1 : Int32))] [(.ref b92)])) _
    refine XS.aload X123.here hx rfl (hb hby at_104) rfl rfl ?_
    show Steps p.tables e below (T123.setTop (mkF m 106 #[.val (.int fl), .val (.long o1), .second, .val (.long o2), .second, .val (.long o3), .second, .val (.long o4), .second, .val (.ref b92), .val (.ref b99), .val (.int (1 : Int32))] [(.ref b99), (.ref b92)])) _
    refine XS.iloadN X123.here hx rfl (hb hby at_106) rfl ?_
    show Steps p.tables e below (T123.setTop (mkF m 107 #[.val (.int fl), .val (.long o1), .second, .val (.long o2), .second, .val (.long o3), .second, .val (.long o4), .second, .val (.ref b92), .val (.ref b99), .val (.int (1 : Int32))] [(.int fl), (.ref b99), (.ref b92)])) _
    refine XS.iconst X123.here hx rfl (hb hby at_107) ?_
    show Steps p.tables e below (T123.setTop (mkF m 108 #[.val (.int fl), .val (.long o1), .second, .val (.long o2), .second, .val (.long o3), .second, .val (.long o4), .second, .val (.ref b92), .val (.ref b99), .val (.int (1 : Int32))] [(.int (4 : Int32)), (.int fl), (.ref b99), (.ref b92)])) _
    refine XS.iand X123.here hx rfl (hb hby at_108) rfl ?_
    exact kt
  obtain ⟨v131, hv131⟩ : ∃ z : Int32, z = (if (fl &&& (4 : Int32)) = (0 : Int32) then (0 : Int32) else (1 : Int32)) := ⟨_, rfl⟩
  have S130 : ∀ t, Steps p.tables e below (T123.setTop (mkF m 117 #[.val (.int fl), .val (.long o1), .second, .val (.long o2), .second, .val (.long o3), .second, .val (.long o4), .second, .val (.ref b92), .val (.ref b99), .val (.int (1 : Int32))] [(.int v131), (.ref b99), (.ref b92)])) t → Steps p.tables e below (T123.setTop (mkF m 109 #[.val (.int fl), .val (.long o1), .second, .val (.long o2), .second, .val (.long o3), .second, .val (.long o4), .second, .val (.ref b92), .val (.ref b99), .val (.int (1 : Int32))] [(.int (fl &&& (4 : Int32))), (.ref b99), (.ref b92)])) t := by
    intro t kt
    subst hv131
    by_cases hc129 : (fl &&& (4 : Int32)) = (0 : Int32)
    · simp only [if_pos hc129] at kt
      show Steps p.tables e below (T123.setTop (mkF m 109 #[.val (.int fl), .val (.long o1), .second, .val (.long o2), .second, .val (.long o3), .second, .val (.long o4), .second, .val (.ref b92), .val (.ref b99), .val (.int (1 : Int32))] [(.int (fl &&& (4 : Int32))), (.ref b99), (.ref b92)])) _
      refine XS.ifYes X123.here hx rfl (pc0 := 109) (pc' := 116) rfl (hb hby at_109) rfl ((if0 _ _).trans (teq hc129).1) (by decide) (by decide) ?_
      show Steps p.tables e below (T123.setTop (mkF m 116 #[.val (.int fl), .val (.long o1), .second, .val (.long o2), .second, .val (.long o3), .second, .val (.long o4), .second, .val (.ref b92), .val (.ref b99), .val (.int (1 : Int32))] [(.ref b99), (.ref b92)])) _
      refine XS.iconst X123.here hx rfl (hb hby at_116) ?_
      exact kt
    · simp only [if_neg hc129] at kt
      show Steps p.tables e below (T123.setTop (mkF m 109 #[.val (.int fl), .val (.long o1), .second, .val (.long o2), .second, .val (.long o3), .second, .val (.long o4), .second, .val (.ref b92), .val (.ref b99), .val (.int (1 : Int32))] [(.int (fl &&& (4 : Int32))), (.ref b99), (.ref b92)])) _
      refine XS.ifNo X123.here hx rfl (hb hby at_109) rfl ((if0 _ _).trans (feq hc129).1) ?_
      show Steps p.tables e below (T123.setTop (mkF m 112 #[.val (.int fl), .val (.long o1), .second, .val (.long o2), .second, .val (.long o3), .second, .val (.long o4), .second, .val (.ref b92), .val (.ref b99), .val (.int (1 : Int32))] [(.ref b99), (.ref b92)])) _
      refine XS.iconst X123.here hx rfl (hb hby at_112) ?_
      show Steps p.tables e below (T123.setTop (mkF m 113 #[.val (.int fl), .val (.long o1), .second, .val (.long o2), .second, .val (.long o3), .second, .val (.long o4), .second, .val (.ref b92), .val (.ref b99), .val (.int (1 : Int32))] [(.int (1 : Int32)), (.ref b99), (.ref b92)])) _
      refine XS.goto X123.here hx rfl (pc0 := 113) (pc' := 117) rfl (hb hby at_113) (by decide) (by decide) ?_
      exact kt
  have f132 := (f121.keep K123q)
  have S133 : ∀ t, Steps p.tables e below (T123.setTop (mkF m 119 #[.val (.int fl), .val (.long o1), .second, .val (.long o2), .second, .val (.long o3), .second, .val (.long o4), .second, .val (.ref b92), .val (.ref b99), .val (.int (1 : Int32))] [(.long o3), (.int v131), (.ref b99), (.ref b92)])) t → Steps p.tables e below (T123.setTop (mkF m 117 #[.val (.int fl), .val (.long o1), .second, .val (.long o2), .second, .val (.long o3), .second, .val (.long o4), .second, .val (.ref b92), .val (.ref b99), .val (.int (1 : Int32))] [(.int v131), (.ref b99), (.ref b92)])) t := by
    intro t kt
    show Steps p.tables e below (T123.setTop (mkF m 117 #[.val (.int fl), .val (.long o1), .second, .val (.long o2), .second, .val (.long o3), .second, .val (.long o4), .second, .val (.ref b92), .val (.ref b99), .val (.int (1 : Int32))] [(.int v131), (.ref b99), (.ref b92)])) _
    refine XS.lload X123.here hx rfl (hb hby at_117) rfl ?_
    exact kt
  obtain ⟨_, _, ⟨T134, L134, k134, n134⟩, -, X134, ⟨Lc134, hQ134, l134, y134, z134⟩, st134⟩ := Jvm.LawKit.callS X123 hx (y := (⟨"tidegate/operator/DropsCountPinLaw", "check", "(Ltidegate/operator/FilterOperator$Drops;[JZJ)Z"⟩ : MethodName)) hown (mvT hZ (hw _ (List.mem_of_getElem? (i := 17) rfl))) (mvT hZ (hw _ (List.mem_of_getElem? (i := 18) rfl))) (mvT hZ (hw _ (List.mem_of_getElem? (i := 19) rfl))) (mvT hZ (hw _ (List.mem_of_getElem? (i := 20) rfl))) (by decide) (backOf (W := 0) (rm4 l Z a0 hw [] b92 b99 v131 o3 n127 h123 n0 z126 f132 F124 F125 g_b92 g_b99 ne_b92_b99 (own_wide hn2 (by decide))) hZ (hw _ (List.mem_of_getElem? (i := 20) rfl)) (hw _ (List.mem_of_getElem? (i := 19) rfl)) (by decide) (by decide)) (g := (mkF m 119 #[.val (.int fl), .val (.long o1), .second, .val (.long o2), .second, .val (.long o3), .second, .val (.long o4), .second, .val (.ref b92), .val (.ref b99), .val (.int (1 : Int32))] [(.long o3), (.int v131), (.ref b99), (.ref b92)])) rfl (by rw [hml]; rfl) (argsL := [(.ref b92), (.ref b99), (.int v131), (.long o3)]) (rest := []) (lenOf pd_3 rfl) rfl (by show 2 * 0 + _ ≤ _; exact Nat.le_of_eq rfl) (hb hby at_119) (fun _ _ => ⟨rfl, e123, (by decide : 2 + 0 ≤ _), (by decide : 2 + 0 ≤ _)⟩)
  dsimp only [Pt.U, Pt.locs, Pt.cells, Pt.slots] at X134 l134 y134 z134 st134 hQ134
  subst l134 y134 z134
  obtain ⟨h134, e134⟩ : ∃ z, T134.heap = z := ⟨_, rfl⟩
  rw [e134] at hQ134
  obtain ⟨rfl, N134q, K134q, F135, F136⟩ := hQ134
  have z137 : n0 ≤ h134.size := Nat.le_trans z126 K134q.1
  have N134 := Fr.app N123 N134q
  obtain ⟨n138, hn138⟩ : ∃ z : Int64, z = (own_left (own_pend n127 v131) o3) := ⟨_, rfl⟩
  rw [← hn138] at F135 F136
  have hn3 : own_in n138 3 := by rw [hn138]; exact own_left_in (own_pend_in hn2 (by decide) _) _
  have S139 : ∀ t, Steps p.tables e below (T134.setTop (mkF m 145 #[.val (.int fl), .val (.long o1), .second, .val (.long o2), .second, .val (.long o3), .second, .val (.long o4), .second, .val (.ref b92), .val (.ref b99), .val (.int (1 : Int32))] [(.int (fl &&& (8 : Int32))), (.ref b99), (.ref b92)])) t → Steps p.tables e below (T134.setTop (mkF m 122 #[.val (.int fl), .val (.long o1), .second, .val (.long o2), .second, .val (.long o3), .second, .val (.long o4), .second, .val (.ref b92), .val (.ref b99), .val (.int (1 : Int32))] [(.int (1 : Int32))])) t := by
    intro t kt
    show Steps p.tables e below (T134.setTop (mkF m 122 #[.val (.int fl), .val (.long o1), .second, .val (.long o2), .second, .val (.long o3), .second, .val (.long o4), .second, .val (.ref b92), .val (.ref b99), .val (.int (1 : Int32))] [(.int (1 : Int32))])) _
    refine XS.ifNo X134.here hx rfl (hb hby at_122) rfl ((if0 _ _).trans (feq (by decide)).1) ?_
    show Steps p.tables e below (T134.setTop (mkF m 125 #[.val (.int fl), .val (.long o1), .second, .val (.long o2), .second, .val (.long o3), .second, .val (.long o4), .second, .val (.ref b92), .val (.ref b99), .val (.int (1 : Int32))] [])) _
    refine XS.iconst X134.here hx rfl (hb hby at_125) ?_
    show Steps p.tables e below (T134.setTop (mkF m 126 #[.val (.int fl), .val (.long o1), .second, .val (.long o2), .second, .val (.long o3), .second, .val (.long o4), .second, .val (.ref b92), .val (.ref b99), .val (.int (1 : Int32))] [(.int (1 : Int32))])) _
    refine XS.goto X134.here hx rfl (pc0 := 126) (pc' := 130) rfl (hb hby at_126) (by decide) (by decide) ?_
    show Steps p.tables e below (T134.setTop (mkF m 130 #[.val (.int fl), .val (.long o1), .second, .val (.long o2), .second, .val (.long o3), .second, .val (.long o4), .second, .val (.ref b92), .val (.ref b99), .val (.int (1 : Int32))] [(.int (1 : Int32))])) _
    refine XS.istore X134.here hx rfl (hb hby at_130) rfl (l' := #[.val (.int fl), .val (.long o1), .second, .val (.long o2), .second, .val (.long o3), .second, .val (.long o4), .second, .val (.ref b92), .val (.ref b99), .val (.int (1 : Int32))]) rfl ?_
    show Steps p.tables e below (T134.setTop (mkF m 132 #[.val (.int fl), .val (.long o1), .second, .val (.long o2), .second, .val (.long o3), .second, .val (.long o4), .second, .val (.ref b92), .val (.ref b99), .val (.int (1 : Int32))] [])) _
    refine XS.iload X134.here hx rfl (hb hby at_132) rfl ?_
    show Steps p.tables e below (T134.setTop (mkF m 134 #[.val (.int fl), .val (.long o1), .second, .val (.long o2), .second, .val (.long o3), .second, .val (.long o4), .second, .val (.ref b92), .val (.ref b99), .val (.int (1 : Int32))] [(.int (1 : Int32))])) _
    refine XS.ifNo X134.here hx rfl (hb hby at_134) rfl ((if0 _ _).trans (feq (by decide)).1) ?_
    show Steps p.tables e below (T134.setTop (mkF m 137 #[.val (.int fl), .val (.long o1), .second, .val (.long o2), .second, .val (.long o3), .second, .val (.long o4), .second, .val (.ref b92), .val (.ref b99), .val (.int (1 : Int32))] [])) _
    refine XS.aload X134.here hx rfl (hb hby at_137) rfl rfl ?_
    show Steps p.tables e below (T134.setTop (mkF m 139 #[.val (.int fl), .val (.long o1), .second, .val (.long o2), .second, .val (.long o3), .second, .val (.long o4), .second, .val (.ref b92), .val (.ref b99), .val (.int (1 : Int32))] [(.ref b92)])) _
    refine XS.aload X134.here hx rfl (hb hby at_139) rfl rfl ?_
    show Steps p.tables e below (T134.setTop (mkF m 141 #[.val (.int fl), .val (.long o1), .second, .val (.long o2), .second, .val (.long o3), .second, .val (.long o4), .second, .val (.ref b92), .val (.ref b99), .val (.int (1 : Int32))] [(.ref b99), (.ref b92)])) _
    refine XS.iloadN X134.here hx rfl (hb hby at_141) rfl ?_
    show Steps p.tables e below (T134.setTop (mkF m 142 #[.val (.int fl), .val (.long o1), .second, .val (.long o2), .second, .val (.long o3), .second, .val (.long o4), .second, .val (.ref b92), .val (.ref b99), .val (.int (1 : Int32))] [(.int fl), (.ref b99), (.ref b92)])) _
    refine XS.bipush X134.here hx rfl (hb hby at_142) ?_
    show Steps p.tables e below (T134.setTop (mkF m 144 #[.val (.int fl), .val (.long o1), .second, .val (.long o2), .second, .val (.long o3), .second, .val (.long o4), .second, .val (.ref b92), .val (.ref b99), .val (.int (1 : Int32))] [(.int (8 : Int32)), (.int fl), (.ref b99), (.ref b92)])) _
    refine XS.iand X134.here hx rfl (hb hby at_144) rfl ?_
    exact kt
  obtain ⟨v142, hv142⟩ : ∃ z : Int32, z = (if (fl &&& (8 : Int32)) = (0 : Int32) then (0 : Int32) else (1 : Int32)) := ⟨_, rfl⟩
  have S141 : ∀ t, Steps p.tables e below (T134.setTop (mkF m 153 #[.val (.int fl), .val (.long o1), .second, .val (.long o2), .second, .val (.long o3), .second, .val (.long o4), .second, .val (.ref b92), .val (.ref b99), .val (.int (1 : Int32))] [(.int v142), (.ref b99), (.ref b92)])) t → Steps p.tables e below (T134.setTop (mkF m 145 #[.val (.int fl), .val (.long o1), .second, .val (.long o2), .second, .val (.long o3), .second, .val (.long o4), .second, .val (.ref b92), .val (.ref b99), .val (.int (1 : Int32))] [(.int (fl &&& (8 : Int32))), (.ref b99), (.ref b92)])) t := by
    intro t kt
    subst hv142
    by_cases hc140 : (fl &&& (8 : Int32)) = (0 : Int32)
    · simp only [if_pos hc140] at kt
      show Steps p.tables e below (T134.setTop (mkF m 145 #[.val (.int fl), .val (.long o1), .second, .val (.long o2), .second, .val (.long o3), .second, .val (.long o4), .second, .val (.ref b92), .val (.ref b99), .val (.int (1 : Int32))] [(.int (fl &&& (8 : Int32))), (.ref b99), (.ref b92)])) _
      refine XS.ifYes X134.here hx rfl (pc0 := 145) (pc' := 152) rfl (hb hby at_145) rfl ((if0 _ _).trans (teq hc140).1) (by decide) (by decide) ?_
      show Steps p.tables e below (T134.setTop (mkF m 152 #[.val (.int fl), .val (.long o1), .second, .val (.long o2), .second, .val (.long o3), .second, .val (.long o4), .second, .val (.ref b92), .val (.ref b99), .val (.int (1 : Int32))] [(.ref b99), (.ref b92)])) _
      refine XS.iconst X134.here hx rfl (hb hby at_152) ?_
      exact kt
    · simp only [if_neg hc140] at kt
      show Steps p.tables e below (T134.setTop (mkF m 145 #[.val (.int fl), .val (.long o1), .second, .val (.long o2), .second, .val (.long o3), .second, .val (.long o4), .second, .val (.ref b92), .val (.ref b99), .val (.int (1 : Int32))] [(.int (fl &&& (8 : Int32))), (.ref b99), (.ref b92)])) _
      refine XS.ifNo X134.here hx rfl (hb hby at_145) rfl ((if0 _ _).trans (feq hc140).1) ?_
      show Steps p.tables e below (T134.setTop (mkF m 148 #[.val (.int fl), .val (.long o1), .second, .val (.long o2), .second, .val (.long o3), .second, .val (.long o4), .second, .val (.ref b92), .val (.ref b99), .val (.int (1 : Int32))] [(.ref b99), (.ref b92)])) _
      refine XS.iconst X134.here hx rfl (hb hby at_148) ?_
      show Steps p.tables e below (T134.setTop (mkF m 149 #[.val (.int fl), .val (.long o1), .second, .val (.long o2), .second, .val (.long o3), .second, .val (.long o4), .second, .val (.ref b92), .val (.ref b99), .val (.int (1 : Int32))] [(.int (1 : Int32)), (.ref b99), (.ref b92)])) _
      refine XS.goto X134.here hx rfl (pc0 := 149) (pc' := 153) rfl (hb hby at_149) (by decide) (by decide) ?_
      exact kt
  have f143 := (f132.keep K134q)
  have S144 : ∀ t, Steps p.tables e below (T134.setTop (mkF m 155 #[.val (.int fl), .val (.long o1), .second, .val (.long o2), .second, .val (.long o3), .second, .val (.long o4), .second, .val (.ref b92), .val (.ref b99), .val (.int (1 : Int32))] [(.long o4), (.int v142), (.ref b99), (.ref b92)])) t → Steps p.tables e below (T134.setTop (mkF m 153 #[.val (.int fl), .val (.long o1), .second, .val (.long o2), .second, .val (.long o3), .second, .val (.long o4), .second, .val (.ref b92), .val (.ref b99), .val (.int (1 : Int32))] [(.int v142), (.ref b99), (.ref b92)])) t := by
    intro t kt
    show Steps p.tables e below (T134.setTop (mkF m 153 #[.val (.int fl), .val (.long o1), .second, .val (.long o2), .second, .val (.long o3), .second, .val (.long o4), .second, .val (.ref b92), .val (.ref b99), .val (.int (1 : Int32))] [(.int v142), (.ref b99), (.ref b92)])) _
    refine XS.lload X134.here hx rfl (hb hby at_153) rfl ?_
    exact kt
  obtain ⟨_, _, ⟨T145, L145, k145, n145⟩, -, X145, ⟨Lc145, hQ145, l145, y145, z145⟩, st145⟩ := Jvm.LawKit.callS X134 hx (y := (⟨"tidegate/operator/DropsCountPinLaw", "check", "(Ltidegate/operator/FilterOperator$Drops;[JZJ)Z"⟩ : MethodName)) hown (mvT hZ (hw _ (List.mem_of_getElem? (i := 17) rfl))) (mvT hZ (hw _ (List.mem_of_getElem? (i := 18) rfl))) (mvT hZ (hw _ (List.mem_of_getElem? (i := 19) rfl))) (mvT hZ (hw _ (List.mem_of_getElem? (i := 20) rfl))) (by decide) (backOf (W := 0) (rm4 l Z a0 hw [] b92 b99 v142 o4 n138 h134 n0 z137 f143 F135 F136 g_b92 g_b99 ne_b92_b99 (own_wide hn3 (by decide))) hZ (hw _ (List.mem_of_getElem? (i := 20) rfl)) (hw _ (List.mem_of_getElem? (i := 19) rfl)) (by decide) (by decide)) (g := (mkF m 155 #[.val (.int fl), .val (.long o1), .second, .val (.long o2), .second, .val (.long o3), .second, .val (.long o4), .second, .val (.ref b92), .val (.ref b99), .val (.int (1 : Int32))] [(.long o4), (.int v142), (.ref b99), (.ref b92)])) rfl (by rw [hml]; rfl) (argsL := [(.ref b92), (.ref b99), (.int v142), (.long o4)]) (rest := []) (lenOf pd_3 rfl) rfl (by show 2 * 0 + _ ≤ _; exact Nat.le_of_eq rfl) (hb hby at_155) (fun _ _ => ⟨rfl, e134, (by decide : 2 + 0 ≤ _), (by decide : 2 + 0 ≤ _)⟩)
  dsimp only [Pt.U, Pt.locs, Pt.cells, Pt.slots] at X145 l145 y145 z145 st145 hQ145
  subst l145 y145 z145
  obtain ⟨h145, e145⟩ : ∃ z, T145.heap = z := ⟨_, rfl⟩
  rw [e145] at hQ145
  obtain ⟨rfl, N145q, K145q, F146, F147⟩ := hQ145
  have z148 : n0 ≤ h145.size := Nat.le_trans z137 K145q.1
  have N145 := Fr.app N134 N145q
  obtain ⟨n149, hn149⟩ : ∃ z : Int64, z = (own_left (own_pend n138 v142) o4) := ⟨_, rfl⟩
  rw [← hn149] at F146 F147
  have hn4 : own_in n149 4 := by rw [hn149]; exact own_left_in (own_pend_in hn3 (by decide) _) _
  have S150 : ∀ t, Steps p.tables e below (T145.setTop (mkF m 170 #[.val (.int fl), .val (.long o1), .second, .val (.long o2), .second, .val (.long o3), .second, .val (.long o4), .second, .val (.ref b92), .val (.ref b99), .val (.int (1 : Int32))] [(.int (1 : Int32))])) t → Steps p.tables e below (T145.setTop (mkF m 158 #[.val (.int fl), .val (.long o1), .second, .val (.long o2), .second, .val (.long o3), .second, .val (.long o4), .second, .val (.ref b92), .val (.ref b99), .val (.int (1 : Int32))] [(.int (1 : Int32))])) t := by
    intro t kt
    show Steps p.tables e below (T145.setTop (mkF m 158 #[.val (.int fl), .val (.long o1), .second, .val (.long o2), .second, .val (.long o3), .second, .val (.long o4), .second, .val (.ref b92), .val (.ref b99), .val (.int (1 : Int32))] [(.int (1 : Int32))])) _
    refine XS.ifNo X145.here hx rfl (hb hby at_158) rfl ((if0 _ _).trans (feq (by decide)).1) ?_
    show Steps p.tables e below (T145.setTop (mkF m 161 #[.val (.int fl), .val (.long o1), .second, .val (.long o2), .second, .val (.long o3), .second, .val (.long o4), .second, .val (.ref b92), .val (.ref b99), .val (.int (1 : Int32))] [])) _
    refine XS.iconst X145.here hx rfl (hb hby at_161) ?_
    show Steps p.tables e below (T145.setTop (mkF m 162 #[.val (.int fl), .val (.long o1), .second, .val (.long o2), .second, .val (.long o3), .second, .val (.long o4), .second, .val (.ref b92), .val (.ref b99), .val (.int (1 : Int32))] [(.int (1 : Int32))])) _
    refine XS.goto X145.here hx rfl (pc0 := 162) (pc' := 166) rfl (hb hby at_162) (by decide) (by decide) ?_
    show Steps p.tables e below (T145.setTop (mkF m 166 #[.val (.int fl), .val (.long o1), .second, .val (.long o2), .second, .val (.long o3), .second, .val (.long o4), .second, .val (.ref b92), .val (.ref b99), .val (.int (1 : Int32))] [(.int (1 : Int32))])) _
    refine XS.istore X145.here hx rfl (hb hby at_166) rfl (l' := #[.val (.int fl), .val (.long o1), .second, .val (.long o2), .second, .val (.long o3), .second, .val (.long o4), .second, .val (.ref b92), .val (.ref b99), .val (.int (1 : Int32))]) rfl ?_
    show Steps p.tables e below (T145.setTop (mkF m 168 #[.val (.int fl), .val (.long o1), .second, .val (.long o2), .second, .val (.long o3), .second, .val (.long o4), .second, .val (.ref b92), .val (.ref b99), .val (.int (1 : Int32))] [])) _
    refine XS.iload X145.here hx rfl (hb hby at_168) rfl ?_
    exact kt
  have C151 : ∀ t, Steps p.tables e below (T145.setTop (mkF m 170 #[.val (.int fl), .val (.long o1), .second, .val (.long o2), .second, .val (.long o3), .second, .val (.long o4), .second, .val (.ref b92), .val (.ref b99), .val (.int (1 : Int32))] [(.int (1 : Int32))])) t → Steps p.tables e below (s₁.setTop (mkF m 0 #[.val (.int fl), .val (.long o1), .second, .val (.long o2), .second, .val (.long o3), .second, .val (.long o4), .second, .unset, .unset, .unset] [])) t := (fun t k => (st92 t (S96 t (st97.trans (S98 t (st99 t (S103 t (st104.trans (S106 t (S107 t (S109 t (S111 t (st112 t (S117 t (S119 t (S122 t (st123 t (S128 t (S130 t (S133 t (st134 t (S139 t (S141 t (S144 t (st145 t (S150 t k))))))))))))))))))))))))))
  obtain ⟨fs, hr, hrun, hended, hW, hsame⟩ := X145.leave (v := some (.int (1 : Int32))) (fun h => by rw [Bd.returns] at h; cases h)
  refine ⟨_, _, pre0 _ (C151 _ ?_), hrun, hended, _, _, rfl, ?_, ⟨_, rfl⟩, hW, hsame.mono (by decide) (by decide)⟩
  · exact retN X145 hx (t := .boolean) Bd.returns (by simp) (hb hby at_170) hr
  · show Q_rm0 Z fl o1 o2 o3 o4 h0 n0 _ T145.heap _
    rw [e145]
    exact ⟨rfl, N145⟩
set_option maxRecDepth 65536 in
set_option maxHeartbeats 40000000 in
theorem comes_1 {Post : Tables → Env → Array Value → State → Outcome → State → Prop} (hpost : ∀ tb e args s v u, (limb_1_1.after args s (.returned v) u = true ∧ limb_1_2.after args s (.returned v) u = true ∧ True) → FrameEnd s (.returned v) u (Jvm.fieldLocs frame_1_writes args s ++ Jvm.arrayLocs frame_1_arrays args s ++ Jvm.staticLocs frame_1_statics s) 16 128 → Post tb e args s (.returned v) u) :
    ArmFor flags0 classFile x code maxLocals ret World_1 tables_1 room_1 Calls_1 rest_1 Pre_1 Post := by
  intro l hfl _ _ p e ha hc hk s m args below hf hA hF happ hP
  obtain ⟨hcalls, hrest, hpre⟩ := hP
  obtain ⟨-, -, -, hnamed, -, -, -, hat⟩ := (Spec.applies_iff hf).mp happ
  obtain ⟨hg, hn⟩ := and_e (Cond.before_iff.mp (show (Jvm.Cond.and given_1 narrow_1).before args s = true from hpre))
  obtain ⟨gg1, gg2⟩ := and_e hg
  obtain ⟨gg3, gg4⟩ := and_e gg2
  obtain ⟨gg5, gg6⟩ := and_e gg4
  obtain ⟨gg7, gg8⟩ := and_e gg6
  obtain ⟨gg9, gg10⟩ := and_e gg8
  obtain ⟨w0, w1, w2, w3, w4, rfl⟩ : ∃ w0 w1 w2 w3 w4 : Value, args = #[w0, w1, w2, w3, w4] := by
    have hs : args.size = 5 := by simpa [Cond.value, given_1] using gg1
    obtain ⟨L⟩ := args
    match L, hs with
    | [w0, w1, w2, w3, w4], _ => exact ⟨w0, w1, w2, w3, w4, rfl⟩
  have hw := fun d (hd : d ∈ tables_1) => atoms_spec (ws := Jvm.Cond.code x code maxLocals ret :: tables_1) hat d (List.mem_cons_of_mem _ hd)
  have hfit : Fit s := fun {y c} hc i hi => by
    obtain ⟨ha, rfl⟩ := Array.getElem?_eq_some_iff.mp hc
    have q := List.all_eq_true.mp ((Array.all_eq_true_iff_forall_mem.mp hF) _ (Array.getElem_mem ha)) i (List.mem_range.mpr hi)
    simpa [Array.getElem?_eq_getElem hi] using q
  obtain ⟨i0, ei0⟩ := is_v gg3
  obtain rfl : w0 = (.int i0) := Option.some.inj ei0
  obtain ⟨i1, ei1⟩ := isL_v gg5
  obtain rfl : w1 = (.long i1) := Option.some.inj ei1
  obtain ⟨i2, ei2⟩ := isL_v gg7
  obtain rfl : w2 = (.long i2) := Option.some.inj ei2
  obtain ⟨i3, ei3⟩ := isL_v gg9
  obtain rfl : w3 = (.long i3) := Option.some.inj ei3
  obtain ⟨i4, ei4⟩ := isL_v gg10
  obtain rfl : w4 = (.long i4) := Option.some.inj ei4
  obtain ⟨n, o, h1, h2, h3, _, L, rfl, ⟨rfl, N⟩, hq⟩ := rm0 l s _ hw tables_1 i0 i1 i2 i3 i4 s.heap s.heap.size (Nat.le_refl _)  p e ha hc hk s m _ below hf ((Spec.applies_iff_loose hf).mp happ).1 ⟨rfl, State.Warmed39.refl s, rfl⟩ trivial
  refine ⟨n, _, h1, h2, h3, hpost _ _ _ _ _ _ ⟨Cond.after_iff.mpr rfl, Cond.after_iff.mpr (eq_i res_at (Term.int_eval (1)) rfl), trivial⟩ ⟨hq.1, hq.2.1, (hq.2.2.sift fun y hy => Or.inr (N y hy)).mono (by decide) (by decide)⟩⟩
theorem main_1_1 : Claimed_1_1 := comes_1 fun _ _ _ _ _ _ h hF => ⟨h.1, hF⟩
theorem main_1_2 : Claimed_1_2 := comes_1 fun _ _ _ _ _ _ h hF => ⟨h.2.1, hF⟩
end Jvm.Pilot.@@N@@
namespace Jvm.Pilot.@@N@@
open Jvm Jvm.ClassFile Sem Op Lib Jvm.Free Jvm.Stand Jvm.Pilot.@@N@@.Jvm.D
/-! MADE BY PROGRAM (witnessworld.py) out of the Statement's table words and the real class files: 11 classes; the members and pool entries that the words name. The judged class is class 1, her method 1. -/
namespace start1
open Jvm.ClassFile
def u (s : String) : CpInfo := .utf8 (stringToUtf16 s)
/-- a pool by its gaps: so many unusable entries, then the entry; so many at the end -/
def gap : Nat → List CpInfo → List CpInfo
  | 0, r => r
  | n + 1, r => .unusable :: gap n r
def poolList (es : List (Nat × CpInfo)) (last : Nat) : List CpInfo := es.foldr (fun e r => gap e.1 (e.2 :: r)) (gap last [])
def pool (es : List (Nat × CpInfo)) (last : Nat) : Array CpInfo := ⟨poolList es last⟩
def fileOf (pool : Array CpInfo) (this : Nat) (attrs : Array Attribute := #[]) (ms : Array MethodInfo := #[]) (fl : Nat := 33) (sup : Nat := 0) (ifs : Array Nat := #[]) (fds : Array FieldInfo := #[]) : ClassFile where
  minorVersion := 0
  majorVersion := 65
  constantPool := pool
  accessFlags := fl
  thisClass := this
  superClass := sup
  interfaces := ifs
  fields := fds
  methods := ms
  attributes := attrs
def plain (name : String) (sup : Option ClassId) : Class where
  name := name
  kind := .ordinary
  loader := none
  accessFlags := 33
  super := sup
  interfaces := #[]
  cf := none
  fields := #[]
  methods := #[]
  instanceTypes := #[]
  staticTypes := #[]
  resolved := #[]
  callSites := []
  init := .initialized
  statics := none
  mirror := none

def pool0 : Array CpInfo := pool [(5, u "<init>"), (0, u "()V"), (1, .class_ 10), (1, u "java/lang/Object")] 113

def k0c0 : Code := { maxStack := 0, maxLocals := 1, code := object_method_1_code, exceptionTable := #[], attributes := #[] }
def k0m0 : Method := { name := "<init>", desc := "()V", sig := { parameters := [], returnType := none }, accessFlags := 1, code := some k0c0 }
/-- java/lang/Object -/
def k0 : Class := { plain "java/lang/Object" none with
  accessFlags := 33
  interfaces := #[]
  cf := some (fileOf pool0 8 #[] #[{ accessFlags := 1, nameIndex := 5, descriptorIndex := 6, attributes := #[] }] 33 0 #[] #[])
  fields := #[]
  methods := #[k0m0]
  instanceTypes := #[]
  staticTypes := #[]
  resolved := Array.replicate 124 none
  statics := none }

def pool1 : Array CpInfo := pool [(2, .class_ 4), (0, .nameAndType 5 6), (0, u "java/lang/Object"), (0, u "<init>"), (0, u "()V"), (0, .class_ 8), (0, u "tidegate/operator/FilterOperator$Drops"), (0, .methodref 7 3), (0, .methodref 7 11), (0, .nameAndType 12 13), (0, u "waiting"), (0, u "()Z"), (0, .methodref 15 16), (0, .class_ 17), (0, .nameAndType 18 19), (0, u "tidegate/operator/DropsCountPinLaw"), (0, u "check"), (0, u "(Ltidegate/operator/FilterOperator$Drops;[JZJ)Z"), (0, .methodref 7 21), (0, .nameAndType 22 23), (0, u "count"), (0, u "(ZJ)J"), (2, u "law"), (0, u "(IJJJJ)Z")] 9

def k1m0 : Method := { name := "<init>", desc := "()V", sig := { parameters := [], returnType := none }, accessFlags := 2, code := none }
def k1c1 : Code := { maxStack := 5, maxLocals := 12, code := code, exceptionTable := #[], attributes := #[] }
def k1m1 : Method := { name := "law", desc := "(IJJJJ)Z", sig := { parameters := [.int, .long, .long, .long, .long], returnType := some .boolean }, accessFlags := 9, code := some k1c1 }
def k1c2 : Code := { maxStack := 6, maxLocals := 11, code := method_3_code, exceptionTable := #[], attributes := #[] }
def k1m2 : Method := { name := "check", desc := "(Ltidegate/operator/FilterOperator$Drops;[JZJ)Z", sig := { parameters := [(.object "tidegate/operator/FilterOperator$Drops"), (.array .long), .boolean, .long], returnType := some .boolean }, accessFlags := 10, code := some k1c2 }
/-- tidegate/operator/DropsCountPinLaw -/
def k1 : Class := { plain "tidegate/operator/DropsCountPinLaw" (some 0) with
  accessFlags := 49
  interfaces := #[]
  cf := some (fileOf pool1 15 #[] #[{ accessFlags := 2, nameIndex := 5, descriptorIndex := 6, attributes := #[] }, { accessFlags := 9, nameIndex := 26, descriptorIndex := 27, attributes := #[] }, { accessFlags := 10, nameIndex := 18, descriptorIndex := 19, attributes := #[] }] 49 2 #[] #[])
  fields := #[]
  methods := #[k1m0, k1m1, k1m2]
  instanceTypes := #[]
  staticTypes := #[]
  resolved := Array.replicate 37 none
  statics := none }

def pool2 : Array CpInfo := pool [(1, .methodref 2 3), (0, .class_ 4), (0, .nameAndType 5 6), (0, u "java/lang/Object"), (0, u "<init>"), (0, u "()V"), (0, .fieldref 8 9), (0, .class_ 10), (0, .nameAndType 11 12), (0, u "tidegate/operator/FilterOperator$Drops"), (0, u "waiting"), (0, u "J"), (2, u "()Z"), (1, u "count"), (0, u "(ZJ)J"), (3, .class_ 23), (0, u "tidegate/operator/FilterOperator")] 2

def k2c0 : Code := { maxStack := 1, maxLocals := 1, code := prog_160_method_1_code, exceptionTable := #[], attributes := #[] }
def k2m0 : Method := { name := "<init>", desc := "()V", sig := { parameters := [], returnType := none }, accessFlags := 0, code := some k2c0 }
def k2c1 : Code := { maxStack := 4, maxLocals := 1, code := prog_160_method_2_code, exceptionTable := #[], attributes := #[] }
def k2m1 : Method := { name := "waiting", desc := "()Z", sig := { parameters := [], returnType := some .boolean }, accessFlags := 0, code := some k2c1 }
def k2c2 : Code := { maxStack := 5, maxLocals := 6, code := prog_160_method_3_code, exceptionTable := #[], attributes := #[] }
def k2m2 : Method := { name := "count", desc := "(ZJ)J", sig := { parameters := [.boolean, .long], returnType := some .long }, accessFlags := 0, code := some k2c2 }
/-- tidegate/operator/FilterOperator$Drops -/
def k2 : Class := { plain "tidegate/operator/FilterOperator$Drops" (some 0) with
  accessFlags := 48
  interfaces := #[]
  cf := some (fileOf pool2 8 #[.nestHost 22] #[{ accessFlags := 0, nameIndex := 5, descriptorIndex := 6, attributes := #[] }, { accessFlags := 0, nameIndex := 11, descriptorIndex := 15, attributes := #[] }, { accessFlags := 0, nameIndex := 17, descriptorIndex := 18, attributes := #[] }] 48 2 #[] #[{ accessFlags := 2, nameIndex := 11, descriptorIndex := 12, attributes := #[] }])
  fields := #[{ name := "waiting", type := .long, accessFlags := 2, slot := 0, constantValue := 0 }]
  methods := #[k2m0, k2m1, k2m2]
  instanceTypes := #[.long]
  staticTypes := #[]
  resolved := Array.replicate 26 none
  statics := none }

def pool3 : Array CpInfo := pool [(1, u "java/lang/Cloneable"), (0, .class_ 1), (0, u "java/lang/Object"), (0, .class_ 3)] 3

/-- java/lang/Cloneable -/
def k3 : Class := { plain "java/lang/Cloneable" (some 0) with
  accessFlags := 1537
  interfaces := #[]
  cf := some (fileOf pool3 2 #[] #[] 1537 4 #[] #[])
  fields := #[]
  methods := #[]
  instanceTypes := #[]
  staticTypes := #[]
  resolved := Array.replicate 8 none
  statics := none }

def pool4 : Array CpInfo := pool [(1, u "java/io/Serializable"), (0, .class_ 1), (0, u "java/lang/Object"), (0, .class_ 3)] 3

/-- java/io/Serializable -/
def k4 : Class := { plain "java/io/Serializable" (some 0) with
  accessFlags := 1537
  interfaces := #[]
  cf := some (fileOf pool4 2 #[] #[] 1537 4 #[] #[])
  fields := #[]
  methods := #[]
  instanceTypes := #[]
  staticTypes := #[]
  resolved := Array.replicate 8 none
  statics := none }

/-- the primitive byte -/
def k5 : Class := { plain "byte" none with kind := .primitive 'B', accessFlags := 0x411 }
/-- [B -/
def k6 : Class := { plain "[B" (some 0) with kind := .array 5 .byte, interfaces := #[3, 4], accessFlags := 1041 }

/-- the primitive int -/
def k7 : Class := { plain "int" none with kind := .primitive 'I', accessFlags := 0x411 }
/-- [I -/
def k8 : Class := { plain "[I" (some 0) with kind := .array 7 .int, interfaces := #[3, 4], accessFlags := 1041 }

/-- the primitive long -/
def k9 : Class := { plain "long" none with kind := .primitive 'J', accessFlags := 0x411 }
/-- [J -/
def k10 : Class := { plain "[J" (some 0) with kind := .array 9 .long, interfaces := #[3, 4], accessFlags := 1041 }

def heap : Heap := #[]
def classes : Array Class := #[k0, k1, k2, k3, k4, k5, k6, k7, k8, k9, k10]
def interned : List (Array UInt16 × Addr) := []
def slotsUsed : Nat := 0
def theMethod : MethodId := ⟨1, 1⟩
def args0 : Array Value := #[.int 5, .long 1, .long 2, .long 3, .long 4]
def aboutOver (below : List Frame) : State where
  vm := { classes := classes, interned := interned.toArray }
  heap := heap
  slotsUsed := slotsUsed
  threads := #[{ frames := .invoking theMethod args0 :: below }]
def below0 : List Frame := [.native { method := ⟨0, 0⟩, args := #[] }]
def about1 : State := aboutOver below0
def p0 : Program := .bare "" "" ""
def e0 : Env := launch0.env 0 0 0
theorem w_frames : about1.frames = Frame.invoking theMethod args0 :: below0 := rfl
set_option maxRecDepth 65536 in
theorem w_args : argsFit about1.vm theMethod args0 = true := by decide +kernel
set_option maxRecDepth 65536 in
theorem w_heap : heapFits about1 = true := by decide +kernel
set_option maxRecDepth 65536 in
theorem w_runnable : about1.curStatus? = some .runnable := by decide +kernel
set_option maxRecDepth 65536 in
theorem w_alone : about1.alone = true := by decide +kernel
set_option maxRecDepth 65536 in
theorem w_named : about1.methodNamed? x = some theMethod := by decide +kernel
set_option maxRecDepth 65536 in
theorem w_hears : about1.hears theMethod below0 = true := by decide +kernel
set_option maxRecDepth 65536 in
theorem w_ripe : about1.ripe theMethod args0 below0 = true := by decide +kernel
theorem w_running : about1.status = .running := rfl
set_option maxRecDepth 65536 in
theorem w_room : about1.hasRoom e0.platform room_1 = true :=
  launch0.hasRoom_least _ room_1 (by decide +kernel) (by decide +kernel) (by decide +kernel) (by decide +kernel) (by decide +kernel) (by decide +kernel)
theorem allAtoms_all (ts : List Jvm.Cond) (a : Array Jvm.Value) (st : Jvm.State) : (allAtoms ts).before a st = ts.all (fun c => c.before a st) := by
  induction ts with
  | nil => rfl
  | cons c t ih =>
    show (Jvm.Cond.and c (allAtoms t)).before a st = _
    rw [Jvm.Cond.before_and, ih, List.all_cons]
def words1 : List Jvm.Cond := Jvm.Cond.code x code maxLocals ret :: tables_1
/-- a 'code' word, met by the world's own term for the bytes: nothing is compared byte by byte -/
theorem code_word {y : MethodName} {bytes : ByteArray} {mx : Nat} {rt : Option FieldType} {a : Array Value} {s : State} {m : MethodId} {meth : Method} {c : Code} (h1 : s.methodNamed? y = some m) (h2 : s.vm.method? m = some meth) (h3 : meth.code = some c) (h4 : c.code = bytes)
    (h5 : (c.maxLocals == mx && c.exceptionTable.isEmpty && decide (c.maxStack ≤ mostOperands) && decide (meth.sig.returnType = rt) && !meth.locks && decide (parseMethodDescriptor y.desc = some meth.sig)) = true) : (Jvm.Cond.code y bytes mx rt).before a s = true := by
  simp only [Bool.and_eq_true, beq_iff_eq, Bool.not_eq_true', decide_eq_true_eq] at h5
  obtain ⟨⟨⟨⟨⟨g1, g2⟩, g3⟩, g4⟩, g5⟩, g6⟩ := h5
  simp [Cond.before, Cond.holds, Cond.value, h1, h2, h3, h4, g1, g2, g3, g4, g5, g6]
def isCode : Jvm.Cond → Bool
  | .code _ _ _ _ => true
  | _ => false
theorem all_split {L : List Jvm.Cond} {P : Jvm.Cond → Bool} (h1 : L.all (fun c => isCode c || P c) = true) (h2 : ∀ c ∈ L.filter isCode, P c = true) : L.all P = true := by
  refine List.all_eq_true.mpr fun c hc => ?_
  have h := List.all_eq_true.mp h1 c hc
  rcases Bool.eq_false_or_eq_true (isCode c) with hi | hi
  · exact h2 c (List.mem_filter.mpr ⟨hc, hi⟩)
  · simpa [hi] using h
set_option maxRecDepth 65536 in
theorem w_c0 : (Jvm.Cond.code x code maxLocals ret).before args0 about1 = true := code_word (m := ⟨1, 1⟩) (meth := k1m1) (c := k1c1) (by decide +kernel) rfl rfl rfl (by decide +kernel)
set_option maxRecDepth 65536 in
theorem w_c1 : (Jvm.Cond.code ({ cls := "tidegate/operator/FilterOperator$Drops", name := "<init>", desc := "()V" } : Jvm.MethodName) prog_160_method_1_code (1 : Nat) (Option.none : Option Jvm.ClassFile.FieldType)).before args0 about1 = true := code_word (m := ⟨2, 0⟩) (meth := k2m0) (c := k2c0) (by decide +kernel) rfl rfl rfl (by decide +kernel)
set_option maxRecDepth 65536 in
theorem w_c2 : (Jvm.Cond.code ({ cls := "java/lang/Object", name := "<init>", desc := "()V" } : Jvm.MethodName) object_method_1_code (1 : Nat) (Option.none : Option Jvm.ClassFile.FieldType)).before args0 about1 = true := code_word (m := ⟨0, 0⟩) (meth := k0m0) (c := k0c0) (by decide +kernel) rfl rfl rfl (by decide +kernel)
set_option maxRecDepth 65536 in
theorem w_c3 : (Jvm.Cond.code ({ cls := "tidegate/operator/FilterOperator$Drops", name := "waiting", desc := "()Z" } : Jvm.MethodName) prog_160_method_2_code (1 : Nat) (Option.some Jvm.ClassFile.FieldType.boolean)).before args0 about1 = true := code_word (m := ⟨2, 1⟩) (meth := k2m1) (c := k2c1) (by decide +kernel) rfl rfl rfl (by decide +kernel)
set_option maxRecDepth 65536 in
theorem w_c4 : (Jvm.Cond.code ({ cls := "tidegate/operator/DropsCountPinLaw", name := "check", desc := "(Ltidegate/operator/FilterOperator$Drops;[JZJ)Z" } : Jvm.MethodName) method_3_code (11 : Nat) (Option.some Jvm.ClassFile.FieldType.boolean)).before args0 about1 = true := code_word (m := ⟨1, 2⟩) (meth := k1m2) (c := k1c2) (by decide +kernel) rfl rfl rfl (by decide +kernel)
set_option maxRecDepth 65536 in
theorem w_c5 : (Jvm.Cond.code ({ cls := "tidegate/operator/FilterOperator$Drops", name := "count", desc := "(ZJ)J" } : Jvm.MethodName) prog_160_method_3_code (6 : Nat) (Option.some Jvm.ClassFile.FieldType.long)).before args0 about1 = true := code_word (m := ⟨2, 2⟩) (meth := k2m2) (c := k2c2) (by decide +kernel) rfl rfl rfl (by decide +kernel)
def codes1 : List Jvm.Cond := [Jvm.Cond.code x code maxLocals ret, Jvm.Cond.code ({ cls := "tidegate/operator/FilterOperator$Drops", name := "<init>", desc := "()V" } : Jvm.MethodName) prog_160_method_1_code (1 : Nat) (Option.none : Option Jvm.ClassFile.FieldType), Jvm.Cond.code ({ cls := "java/lang/Object", name := "<init>", desc := "()V" } : Jvm.MethodName) object_method_1_code (1 : Nat) (Option.none : Option Jvm.ClassFile.FieldType), Jvm.Cond.code ({ cls := "tidegate/operator/FilterOperator$Drops", name := "waiting", desc := "()Z" } : Jvm.MethodName) prog_160_method_2_code (1 : Nat) (Option.some Jvm.ClassFile.FieldType.boolean), Jvm.Cond.code ({ cls := "tidegate/operator/DropsCountPinLaw", name := "check", desc := "(Ltidegate/operator/FilterOperator$Drops;[JZJ)Z" } : Jvm.MethodName) method_3_code (11 : Nat) (Option.some Jvm.ClassFile.FieldType.boolean), Jvm.Cond.code ({ cls := "tidegate/operator/FilterOperator$Drops", name := "count", desc := "(ZJ)J" } : Jvm.MethodName) prog_160_method_3_code (6 : Nat) (Option.some Jvm.ClassFile.FieldType.long)]
set_option maxRecDepth 65536 in
theorem codes_eq : words1.filter isCode = codes1 := rfl
theorem w_codes : ∀ c ∈ words1.filter isCode, c.before args0 about1 = true := by
  rw [codes_eq]
  intro c hc
  simp only [codes1, List.mem_cons, List.not_mem_nil, or_false] at hc
  rcases hc with rfl | rfl | rfl | rfl | rfl | rfl
  · exact w_c0
  · exact w_c1
  · exact w_c2
  · exact w_c3
  · exact w_c4
  · exact w_c5
set_option maxRecDepth 65536 in
theorem w_t1 : (words1.take 24).all (fun c => isCode c || c.before args0 about1) = true := by decide +kernel
set_option maxRecDepth 65536 in
theorem w_t2 : (words1.drop 24).all (fun c => isCode c || c.before args0 about1) = true := by decide +kernel
theorem w_tables : (allAtoms (Jvm.Cond.code x code maxLocals ret :: tables_1)).before args0 about1 = true := by
  rw [allAtoms_all]
  show words1.all (fun c => c.before args0 about1) = true
  refine all_split ?_ w_codes
  rw [← List.take_append_drop 24 words1, List.all_append, w_t1, w_t2]
  rfl
set_option maxRecDepth 65536 in
theorem w_case : (Jvm.Cond.and given_1 narrow_1).before args0 about1 = true := by decide +kernel
theorem w_applies : (headSpec (Jvm.Cond.code x code maxLocals ret :: tables_1) room_1).applies x e0.platform about1 = true :=
  (Spec.applies_iff w_frames).mpr ⟨w_running, w_runnable, w_alone, w_named, w_hears, w_ripe, w_room, w_tables⟩
theorem atStart : AtStart classFile x code maxLocals ret World_1 tables_1 room_1 Calls_1 rest_1 Pre_1 launch0 p0 e0 about1 theMethod args0 below0 :=
  ⟨lists_1, trivial, launch0.admits_env _ _ _, launch0.least_env, fairChoices_fair.cas, fairChoices_fair.clock, w_frames, w_args, w_heap, w_applies, trivial, trivial, w_case⟩
end start1
theorem witness_1 : WitnessClaimed_1 := ⟨start1.p0, start1.e0, start1.about1, start1.theMethod, start1.args0, start1.below0, start1.atStart⟩
end Jvm.Pilot.@@N@@
