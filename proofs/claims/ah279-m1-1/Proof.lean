import JvmDerived
import JvmDerived.Pilot.@@N@@Statement
import JvmDerived.Pilot.@@N@@Code
set_option linter.unusedVariables false
set_option linter.unusedSimpArgs false
namespace Jvm.RoadKit
theorem own_add32 {a b : Int32} (h1 : -2147483648 ≤ a.toInt + b.toInt) (h2 : a.toInt + b.toInt < 2147483648) : (a + b).toInt = a.toInt + b.toInt := by
  rw [Int32.toInt_add]; exact Int.bmod_eq_of_le (by omega) (by omega)
theorem own_sub32 {a b : Int32} (h1 : -2147483648 ≤ a.toInt - b.toInt) (h2 : a.toInt - b.toInt < 2147483648) : (a - b).toInt = a.toInt - b.toInt := by
  rw [Int32.toInt_sub]; exact Int.bmod_eq_of_le (by omega) (by omega)
theorem own_mul32 {a b : Int32} (h1 : -2147483648 ≤ a.toInt * b.toInt) (h2 : a.toInt * b.toInt < 2147483648) : (a * b).toInt = a.toInt * b.toInt := by
  rw [Int32.toInt_mul]; exact Int.bmod_eq_of_le (by omega) (by omega)
theorem own_add64 {a b : Int64} (h1 : -9223372036854775808 ≤ a.toInt + b.toInt) (h2 : a.toInt + b.toInt < 9223372036854775808) : (a + b).toInt = a.toInt + b.toInt := by
  rw [Int64.toInt_add]; exact Int.bmod_eq_of_le (by omega) (by omega)
theorem own_sub64 {a b : Int64} (h1 : -9223372036854775808 ≤ a.toInt - b.toInt) (h2 : a.toInt - b.toInt < 9223372036854775808) : (a - b).toInt = a.toInt - b.toInt := by
  rw [Int64.toInt_sub]; exact Int.bmod_eq_of_le (by omega) (by omega)
theorem own_mul64 {a b : Int64} (h1 : -9223372036854775808 ≤ a.toInt * b.toInt) (h2 : a.toInt * b.toInt < 9223372036854775808) : (a * b).toInt = a.toInt * b.toInt := by
  rw [Int64.toInt_mul]; exact Int.bmod_eq_of_le (by omega) (by omega)
/-- a mask that isn't negative -/
theorem own_mask32 (x k : Int32) (hk : 0 ≤ k.toInt) : 0 ≤ (x &&& k).toInt ∧ (x &&& k).toInt ≤ k.toInt := by
  have hk' : k.toBitVec.toNat < 2 ^ 31 := by
    have := k.toBitVec.isLt
    have e : k.toInt = k.toBitVec.toInt := rfl
    rw [e, BitVec.toInt_eq_toNat_cond] at hk
    split at hk <;> omega
  have h1 : (x &&& k).toInt = (x.toBitVec &&& k.toBitVec).toInt := rfl
  have h2 : (x.toBitVec &&& k.toBitVec).toNat ≤ k.toBitVec.toNat := by rw [BitVec.toNat_and]; exact Nat.and_le_right
  have e : k.toInt = k.toBitVec.toInt := rfl
  rw [h1, e, BitVec.toInt_eq_toNat_of_lt (by omega), BitVec.toInt_eq_toNat_of_lt (by omega)]; omega
theorem own_mask64 (x k : Int64) (hk : 0 ≤ k.toInt) : 0 ≤ (x &&& k).toInt ∧ (x &&& k).toInt ≤ k.toInt := by
  have hk' : k.toBitVec.toNat < 2 ^ 63 := by
    have := k.toBitVec.isLt
    have e : k.toInt = k.toBitVec.toInt := rfl
    rw [e, BitVec.toInt_eq_toNat_cond] at hk
    split at hk <;> omega
  have h1 : (x &&& k).toInt = (x.toBitVec &&& k.toBitVec).toInt := rfl
  have h2 : (x.toBitVec &&& k.toBitVec).toNat ≤ k.toBitVec.toNat := by rw [BitVec.toNat_and]; exact Nat.and_le_right
  have e : k.toInt = k.toBitVec.toInt := rfl
  rw [h1, e, BitVec.toInt_eq_toNat_of_lt (by omega), BitVec.toInt_eq_toNat_of_lt (by omega)]; omega
end Jvm.RoadKit
namespace Jvm.RoadKit
open Sem ClassFile Op Lib Jvm.Stand Jvm.Free Jvm.LawKit
section Own
variable {p : Program} {l : Launch} {e : Env} {R : Room} {s : State} {m : MethodId} {args : Array Value} {below : List Frame} {meth : Method} {c : Code} {T : State} {locs : List Loc} {cells slots : Nat} {Z : State} {h h' : Heap} {a b : Addr} {ty : FieldType} {n : Nat} {f f' : Nat → Value} {sl : Nat} {v : Value} {ws : List Addr}
/-- an array of n places, place i holds f i -/
def ArF (Z : State) (h : Heap) (a : Addr) (ty : FieldType) (n : Nat) (f : Nat → Value) : Prop := ∃ c : Cell, Arr Z h a c ty ∧ c.slots.size = n ∧ n < 2 ^ 31 ∧ ∀ i, i < n → c.slots[i]? = some (f i)
theorem ArF.lt (F : ArF Z h a ty n f) : a < h.size := by obtain ⟨c, A, -⟩ := F; exact A.lt
theorem ArF.ext (F : ArF Z h a ty n f) (E : Ext h h') : ArF Z h' a ty n f := by obtain ⟨c, A, r⟩ := F; exact ⟨c, A.ext E, r⟩
theorem ArF.other (F : ArF Z h a ty n f) (W : Wr h h' b sl v) (q : a ≠ b) : ArF Z h' a ty n f := by obtain ⟨c, A, r⟩ := F; exact ⟨c, A.other W q, r⟩
theorem ArF.keep (F : ArF Z h a ty n f) (K : Keep h h' ws) (q : a ∉ ws) : ArF Z h' a ty n f := by obtain ⟨c, A, r⟩ := F; exact ⟨c, ⟨K.2.1 a c A.1 q, A.2⟩, r⟩
theorem ArF.congr (F : ArF Z h a ty n f) (q : ∀ i, i < n → f i = f' i) : ArF Z h a ty n f' := by obtain ⟨c, A, r1, r2, r3⟩ := F; exact ⟨c, A, r1, r2, fun i hi => by rw [← q i hi]; exact r3 i hi⟩
theorem ArF.new {k : ClassId} {z : Int32} {dv : Value} (A : Arr Z h a (newA k ty z) ty) (q : ¬ z < 0) (hn : z.toNatClampNeg = n) (hdv : defaultValue ty = dv := by rfl) : ArF Z h a ty n (fun _ => dv) := by
  subst hn hdv
  refine ⟨_, A, sz_new _ _ _, (back32 q).2, fun i hi => ?_⟩
  simp [newA, hi]
theorem own_clamp {j : Int32} {i : Nat} (hj : j.toInt = (i : Int)) : j.toNatClampNeg = i := by
  show j.toInt.toNat = i
  rw [hj]; rfl
theorem own_inb {c : Cell} {j : Int32} {i : Nat} (S : c.slots.size = n) (hj : j.toInt = (i : Int)) (hi : i < n) : ¬ (j < 0 ∨ c.slots.size ≤ j.toNatClampNeg) := by
  rw [own_clamp hj, S]
  rintro (q | q)
  · rw [Int32.lt_iff_toInt_lt, hj] at q
    have : (0 : Int32).toInt = 0 := by decide
    omega
  · omega
theorem ArF.setW {i : Nat} {c : Cell} (A : Arr Z h a c ty) (S : c.slots.size = n) (q3 : n < 2 ^ 31) (H : ∀ k, k < n → c.slots[k]? = some (f k)) (W : Wr h h' a i v) : ArF Z h' a ty n (fun q => if q = i then v else f q) := by
  refine ⟨_, A.same W, by rw [sz_set, S], q3, fun k hk => ?_⟩
  by_cases e : k = i
  · subst e; simp [Cell.setSlot, S, hk]
  · simp only [if_neg e, Cell.setSlot]
    rw [Array.getElem?_setIfInBounds_ne (Ne.symm e)]; exact H k hk
theorem ArF.stI (X : Stand p l e R s m args below meth c T locs cells slots) (hx : p.tables.exec = Jvm.exec) (hZ : Z.Warmed39 s.vm) (eT : T.heap = h) (F : ArF Z h a .int n f) {j x : Int32} {i : Nat} (hj : j.toInt = (i : Int)) (hi : i < n) {g : JFrame} (hg : g.method = m) {rest : List Value} (hs : g.stack = .int x :: .int j :: .ref a :: rest) (hd : decode c.code g.pc = .ok (.iastore, 1)) :
    ∃ T' h', Stand p l e R s m args below meth c T' (locs ++ [⟨a, i⟩]) cells slots ∧ T'.heap = h' ∧ Wr h h' a i (.int x) ∧ ArF Z h' a .int n (fun q => if q = i then .int x else f q) ∧ ∀ target, Steps p.tables e below (T'.setTop { g with pc := g.pc + 1, stack := rest }) target → Steps p.tables e below (T.setTop g) target := by
  obtain ⟨c, A, S, q3, H⟩ := F
  obtain ⟨T', h', X', e', W, st⟩ := Jvm.RoadKit.stI X hx hZ eT A (own_inb S hj hi) hg hs hd
  rw [own_clamp hj] at X' W
  exact ⟨T', h', X', e', W, ArF.setW A S q3 H W, st⟩
theorem ArF.stJ (X : Stand p l e R s m args below meth c T locs cells slots) (hx : p.tables.exec = Jvm.exec) (hZ : Z.Warmed39 s.vm) (eT : T.heap = h) (F : ArF Z h a .long n f) {j : Int32} {x : Int64} {i : Nat} (hj : j.toInt = (i : Int)) (hi : i < n) {g : JFrame} (hg : g.method = m) {rest : List Value} (hs : g.stack = .long x :: .int j :: .ref a :: rest) (hd : decode c.code g.pc = .ok (.lastore, 1)) :
    ∃ T' h', Stand p l e R s m args below meth c T' (locs ++ [⟨a, i⟩]) cells slots ∧ T'.heap = h' ∧ Wr h h' a i (.long x) ∧ ArF Z h' a .long n (fun q => if q = i then .long x else f q) ∧ ∀ target, Steps p.tables e below (T'.setTop { g with pc := g.pc + 1, stack := rest }) target → Steps p.tables e below (T.setTop g) target := by
  obtain ⟨c, A, S, q3, H⟩ := F
  obtain ⟨T', h', X', e', W, st⟩ := Jvm.RoadKit.stJ X hx hZ eT A (own_inb S hj hi) hg hs hd
  rw [own_clamp hj] at X' W
  exact ⟨T', h', X', e', W, ArF.setW A S q3 H W, st⟩
theorem ArF.stB (X : Stand p l e R s m args below meth c T locs cells slots) (hx : p.tables.exec = Jvm.exec) (hZ : Z.Warmed39 s.vm) (eT : T.heap = h) (F : ArF Z h a .byte n f) {j x : Int32} {i : Nat} (hj : j.toInt = (i : Int)) (hi : i < n) {g : JFrame} (hg : g.method = m) {rest : List Value} (hs : g.stack = .int x :: .int j :: .ref a :: rest) (hd : decode c.code g.pc = .ok (.bastore, 1)) :
    ∃ T' h', Stand p l e R s m args below meth c T' (locs ++ [⟨a, i⟩]) cells slots ∧ T'.heap = h' ∧ Wr h h' a i (.int (nar .byte x)) ∧ ArF Z h' a .byte n (fun q => if q = i then .int (nar .byte x) else f q) ∧ ∀ target, Steps p.tables e below (T'.setTop { g with pc := g.pc + 1, stack := rest }) target → Steps p.tables e below (T.setTop g) target := by
  obtain ⟨c, A, S, q3, H⟩ := F
  obtain ⟨T', h', X', e', W, st⟩ := Jvm.RoadKit.stB X hx hZ eT A (own_inb S hj hi) hg hs hd
  rw [own_clamp hj] at X' W
  exact ⟨T', h', X', e', W, ArF.setW A S q3 H W, st⟩
theorem ArF.stC (X : Stand p l e R s m args below meth c T locs cells slots) (hx : p.tables.exec = Jvm.exec) (hZ : Z.Warmed39 s.vm) (eT : T.heap = h) (F : ArF Z h a .char n f) {j x : Int32} {i : Nat} (hj : j.toInt = (i : Int)) (hi : i < n) {g : JFrame} (hg : g.method = m) {rest : List Value} (hs : g.stack = .int x :: .int j :: .ref a :: rest) (hd : decode c.code g.pc = .ok (.castore, 1)) :
    ∃ T' h', Stand p l e R s m args below meth c T' (locs ++ [⟨a, i⟩]) cells slots ∧ T'.heap = h' ∧ Wr h h' a i (.int (nar .char x)) ∧ ArF Z h' a .char n (fun q => if q = i then .int (nar .char x) else f q) ∧ ∀ target, Steps p.tables e below (T'.setTop { g with pc := g.pc + 1, stack := rest }) target → Steps p.tables e below (T.setTop g) target := by
  obtain ⟨c, A, S, q3, H⟩ := F
  obtain ⟨T', h', X', e', W, st⟩ := Jvm.RoadKit.stC X hx hZ eT A (own_inb S hj hi) hg hs hd
  rw [own_clamp hj] at X' W
  exact ⟨T', h', X', e', W, ArF.setW A S q3 H W, st⟩
theorem ArF.ldI (X : Stand p l e R s m args below meth c T locs cells slots) (hx : p.tables.exec = Jvm.exec) (hZ : Z.Warmed39 s.vm) (eT : T.heap = h) (F : ArF Z h a .int n f) {j : Int32} {i : Nat} (hj : j.toInt = (i : Int)) (hi : i < n) {v : Int32} (hv : f i = .int v) {g : JFrame} (hg : g.method = m) {rest : List Value} (hs : g.stack = .int j :: .ref a :: rest) (hd : decode c.code g.pc = .ok (.iaload, 1)) :
    ∀ target, Steps p.tables e below (T.setTop { g with pc := g.pc + 1, stack := .int v :: rest }) target → Steps p.tables e below (T.setTop g) target := by
  obtain ⟨c, A, S, q3, H⟩ := F
  exact X.iaload hx (by rw [eT]; exact A.1) (State.isArrayOf_alike hZ.alike A.2.1) A.2.2 (own_inb S hj hi) (by rw [own_clamp hj, ← hv]; exact H i hi) hg hs hd
theorem ArF.ldJ (X : Stand p l e R s m args below meth c T locs cells slots) (hx : p.tables.exec = Jvm.exec) (hZ : Z.Warmed39 s.vm) (eT : T.heap = h) (F : ArF Z h a .long n f) {j : Int32} {i : Nat} (hj : j.toInt = (i : Int)) (hi : i < n) {v : Int64} (hv : f i = .long v) {g : JFrame} (hg : g.method = m) {rest : List Value} (hs : g.stack = .int j :: .ref a :: rest) (hd : decode c.code g.pc = .ok (.laload, 1)) :
    ∀ target, Steps p.tables e below (T.setTop { g with pc := g.pc + 1, stack := .long v :: rest }) target → Steps p.tables e below (T.setTop g) target := by
  obtain ⟨c, A, S, q3, H⟩ := F
  exact X.laload hx (by rw [eT]; exact A.1) (State.isArrayOf_alike hZ.alike A.2.1) A.2.2 (own_inb S hj hi) (by rw [own_clamp hj, ← hv]; exact H i hi) hg hs hd
theorem ArF.ldB (X : Stand p l e R s m args below meth c T locs cells slots) (hx : p.tables.exec = Jvm.exec) (hZ : Z.Warmed39 s.vm) (eT : T.heap = h) (F : ArF Z h a .byte n f) {j : Int32} {i : Nat} (hj : j.toInt = (i : Int)) (hi : i < n) {v : Int32} (hv : f i = .int v) {g : JFrame} (hg : g.method = m) {rest : List Value} (hs : g.stack = .int j :: .ref a :: rest) (hd : decode c.code g.pc = .ok (.baload, 1)) :
    ∀ target, Steps p.tables e below (T.setTop { g with pc := g.pc + 1, stack := .int v :: rest }) target → Steps p.tables e below (T.setTop g) target := by
  obtain ⟨c, A, S, q3, H⟩ := F
  exact X.baloadBytes hx (by rw [eT]; exact A.1) (State.isArrayOf_alike hZ.alike A.2.1) A.2.2 (own_inb S hj hi) (by rw [own_clamp hj, ← hv]; exact H i hi) hg hs hd
theorem ArF.ldC (X : Stand p l e R s m args below meth c T locs cells slots) (hx : p.tables.exec = Jvm.exec) (hZ : Z.Warmed39 s.vm) (eT : T.heap = h) (F : ArF Z h a .char n f) {j : Int32} {i : Nat} (hj : j.toInt = (i : Int)) (hi : i < n) {v : Int32} (hv : f i = .int v) {g : JFrame} (hg : g.method = m) {rest : List Value} (hs : g.stack = .int j :: .ref a :: rest) (hd : decode c.code g.pc = .ok (.caload, 1)) :
    ∀ target, Steps p.tables e below (T.setTop { g with pc := g.pc + 1, stack := .int v :: rest }) target → Steps p.tables e below (T.setTop g) target := by
  obtain ⟨c, A, S, q3, H⟩ := F
  exact X.caload hx (by rw [eT]; exact A.1) (State.isArrayOf_alike hZ.alike A.2.1) A.2.2 (own_inb S hj hi) (by rw [own_clamp hj, ← hv]; exact H i hi) hg hs hd
theorem ArF.len (X : Stand p l e R s m args below meth c T locs cells slots) (hx : p.tables.exec = Jvm.exec) (hZ : Z.Warmed39 s.vm) (eT : T.heap = h) (F : ArF Z h a ty n f) {g : JFrame} (hg : g.method = m) {rest : List Value} (hs : g.stack = .ref a :: rest) (hd : decode c.code g.pc = .ok (.arraylength, 1)) :
    ∀ target, Steps p.tables e below (T.setTop { g with pc := g.pc + 1, stack := .int (Int32.ofNat n) :: rest }) target → Steps p.tables e below (T.setTop g) target := by
  obtain ⟨c, A, S, q3, H⟩ := F
  have q := X.arraylength hx (by rw [eT]; exact A.1) (State.isArrayOf_alike hZ.alike A.2.1) hg hs hd
  rw [S] at q
  exact q
theorem own_more (X : Stand p l e R s m args below meth c T locs cells slots) {k n : Nat} (h1 : cells ≤ k) (h2 : slots ≤ n) : Stand p l e R s m args below meth c T locs k n :=
  { X with same := X.same.mono h1 h2 }
theorem own_selP {Z s : State} {a0 args : Array Value} {y : MethodName} {k : Nat} (hZ : Z.Warmed39 s.vm) (wi : (Cond.instantiable y.cls k).before a0 Z = true) (wp : (Cond.privateMethod y).before a0 Z = true) (wm : (Cond.instanceMethod y).before a0 Z = true) (hy : y.cls ≠ "java/lang/invoke/MethodHandle" ∧ y.cls ≠ "java/lang/invoke/VarHandle") : (Cond.selects y.cls y y).before args s = true := by
  have wi' : (Cond.instantiable y.cls k).before args s = true := mvT hZ wi
  obtain ⟨c, q, h1, h2, -, h4, -⟩ := Cond.instantiable_spec wi'
  simp only [Bool.or_eq_false_iff] at h4
  exact Jvm.Stand.selects_self_of_private h1 h2 h4.1 (Cond.privateMethod_at (mvP hZ wp (args := args))) (mvT hZ wm) hy
end Own
end Jvm.RoadKit
namespace Jvm.Pilot.@@N@@
open Jvm Jvm.ClassFile Sem Op Lib Jvm.Free Jvm.Stand Jvm.LawKit Jvm.RoadKit Bundle Jvm.Pilot.@@N@@.Jvm.D
theorem d1_0 : decode prog_1_method_15_code 0 = .ok (.iload_n 2, 1) := by decide +kernel
theorem d1_1 : decode prog_1_method_15_code 1 = .ok (.iload_n 1, 1) := by decide +kernel
theorem d1_2 : decode prog_1_method_15_code 2 = .ok (.isub, 1) := by decide +kernel
theorem d1_3 : decode prog_1_method_15_code 3 = .ok (.aload_n 3, 1) := by decide +kernel
theorem d1_4 : decode prog_1_method_15_code 4 = .ok (.arraylength, 1) := by decide +kernel
theorem d1_5 : decode prog_1_method_15_code 5 = .ok (.if_icmp .ge 5, 3) := by decide +kernel
theorem d1_8 : decode prog_1_method_15_code 8 = .ok (.iconst 0, 1) := by decide +kernel
theorem d1_9 : decode prog_1_method_15_code 9 = .ok (.ireturn, 1) := by decide +kernel
theorem d1_10 : decode prog_1_method_15_code 10 = .ok (.iconst 0, 1) := by decide +kernel
theorem d1_11 : decode prog_1_method_15_code 11 = .ok (.istore 4, 2) := by decide +kernel
theorem d1_13 : decode prog_1_method_15_code 13 = .ok (.iload 4, 2) := by decide +kernel
theorem d1_15 : decode prog_1_method_15_code 15 = .ok (.aload_n 3, 1) := by decide +kernel
theorem d1_16 : decode prog_1_method_15_code 16 = .ok (.arraylength, 1) := by decide +kernel
theorem d1_17 : decode prog_1_method_15_code 17 = .ok (.if_icmp .ge 24, 3) := by decide +kernel
theorem d1_20 : decode prog_1_method_15_code 20 = .ok (.aload_n 0, 1) := by decide +kernel
theorem d1_21 : decode prog_1_method_15_code 21 = .ok (.iload_n 1, 1) := by decide +kernel
theorem d1_22 : decode prog_1_method_15_code 22 = .ok (.iload 4, 2) := by decide +kernel
theorem d1_24 : decode prog_1_method_15_code 24 = .ok (.iadd, 1) := by decide +kernel
theorem d1_25 : decode prog_1_method_15_code 25 = .ok (.baload, 1) := by decide +kernel
theorem d1_26 : decode prog_1_method_15_code 26 = .ok (.aload_n 3, 1) := by decide +kernel
theorem d1_27 : decode prog_1_method_15_code 27 = .ok (.iload 4, 2) := by decide +kernel
theorem d1_29 : decode prog_1_method_15_code 29 = .ok (.baload, 1) := by decide +kernel
theorem d1_30 : decode prog_1_method_15_code 30 = .ok (.if_icmp .eq 5, 3) := by decide +kernel
theorem d1_33 : decode prog_1_method_15_code 33 = .ok (.iconst 0, 1) := by decide +kernel
theorem d1_34 : decode prog_1_method_15_code 34 = .ok (.ireturn, 1) := by decide +kernel
theorem d1_35 : decode prog_1_method_15_code 35 = .ok (.iinc 4 1, 3) := by decide +kernel
theorem d1_38 : decode prog_1_method_15_code 38 = .ok (.goto (-25), 3) := by decide +kernel
theorem d1_41 : decode prog_1_method_15_code 41 = .ok (.iconst 1, 1) := by decide +kernel
theorem d1_42 : decode prog_1_method_15_code 42 = .ok (.ireturn, 1) := by decide +kernel
theorem pn_0 : plainName "com/example/joinery/joinery/Bytes" = true := by first | (simp [plainName, overriddenIn]; done) | decide +kernel
theorem pn_1 : plainName "com/example/joinery/joinery/BytesStartsWithPinLaw" = true := by first | (simp [plainName, overriddenIn]; done) | decide +kernel
theorem pd_0 : parseMethodDescriptor "([BII[B)Z" = some ⟨[(.array .byte), .int, .int, (.array .byte)], some .boolean⟩ := by decide +kernel

def own_l5 (x0 x1 x2 x3 x4 : Int32) : Nat → Int32
  | 0 => x0 | 1 => x1 | 2 => x2 | 3 => x3 | _ => x4
def own_l4 (x0 x1 x2 x3 : Int32) : Nat → Int32
  | 0 => x0 | 1 => x1 | 2 => x2 | _ => x3
def own_loop (f g : Nat → Int32) (a : Nat) : Nat → Nat → Int32
  | 0, _ => 1
  | k + 1, i => if f (a + i) = g i then own_loop f g a k (i + 1) else 0
def own_sw (f g : Nat → Int32) (a : Nat) (d : Int32) (n : Nat) : Int32 := if d < Int32.ofNat n then 0 else own_loop f g a n 0
theorem own_i32 : (0 : Int32).toInt = 0 ∧ (1 : Int32).toInt = 1 ∧ (2 : Int32).toInt = 2 ∧ (3 : Int32).toInt = 3 ∧ (4 : Int32).toInt = 4 ∧ (5 : Int32).toInt = 5 ∧ (6 : Int32).toInt = 6 ∧ (7 : Int32).toInt = 7 := by decide
theorem own_ofNat {n : Nat} (h : n < 2 ^ 31) : (Int32.ofNat n).toInt = n := Int32.toInt_ofNat_of_lt h
theorem own_narb (y : Int32) : nar .byte (y.toInt8.toInt32) = y.toInt8.toInt32 := by
  show (y.toInt8.toInt32).toInt8.toInt32 = _
  rw [Int8.toInt8_toInt32]
theorem own_wl (n v : Int32) (h : v = (n &&& (7 : Int32)) % (5 : Int32)) : v = 0 ∨ v = 1 ∨ v = 2 ∨ v = 3 ∨ v = 4 := by
  obtain ⟨e0, e1, e2, e3, e4, e5, e6, e7⟩ := own_i32
  have m := own_mask32 n 7 (by decide)
  have r : v.toInt = (n &&& (7 : Int32)).toInt % 5 := by rw [h, Int32.toInt_mod, e5, Int.tmod_eq_emod_of_nonneg m.1]
  have q : v.toInt = 0 ∨ v.toInt = 1 ∨ v.toInt = 2 ∨ v.toInt = 3 ∨ v.toInt = 4 := by omega
  rcases q with q | q | q | q | q
  · exact Or.inl (Int32.toInt_inj.mp (by rw [q, e0]))
  · exact Or.inr (Or.inl (Int32.toInt_inj.mp (by rw [q, e1])))
  · exact Or.inr (Or.inr (Or.inl (Int32.toInt_inj.mp (by rw [q, e2]))))
  · exact Or.inr (Or.inr (Or.inr (Or.inl (Int32.toInt_inj.mp (by rw [q, e3])))))
  · exact Or.inr (Or.inr (Or.inr (Or.inr (Int32.toInt_inj.mp (by rw [q, e4])))))
theorem own_at_in (a v : Int32) (h : v = (a &&& (7 : Int32)) % (6 : Int32)) : ∃ n : Nat, v.toInt = n ∧ n ≤ 5 := by
  obtain ⟨e0, e1, e2, e3, e4, e5, e6, e7⟩ := own_i32
  have m := own_mask32 a 7 (by decide)
  have r : v.toInt = (a &&& (7 : Int32)).toInt % 6 := by rw [h, Int32.toInt_mod, e6, Int.tmod_eq_emod_of_nonneg m.1]
  exact ⟨v.toInt.toNat, by omega, by omega⟩
theorem own_six {v : Int32} {n : Nat} (h : v.toInt = n) (hn : n ≤ 5) : ((6 : Int32) - v).toInt = 6 - n := by
  obtain ⟨e0, e1, e2, e3, e4, e5, e6, e7⟩ := own_i32
  rw [own_sub32] <;> rw [e6] <;> omega
theorem own_six_ne {v : Int32} {n : Nat} (h : v.toInt = n) (hn : n ≤ 5) : ((6 : Int32) - v) ≠ 0 := fun q => by
  have z := own_six h hn
  rw [q, own_i32.1] at z
  omega
theorem own_to_in (t v u : Int32) {n : Nat} (h : v.toInt = n) (hn : n ≤ 5) (hu : u = v + ((t &&& (2147483647 : Int32)) % ((6 : Int32) - v))) : ∃ k : Nat, u.toInt = k ∧ n ≤ k ∧ k ≤ 5 ∧ (u - v).toInt = k - n := by
  have m := own_mask32 t 2147483647 (by decide)
  have z := own_six h hn
  have r : ((t &&& (2147483647 : Int32)) % ((6 : Int32) - v)).toInt = (t &&& (2147483647 : Int32)).toInt % (6 - n) := by rw [Int32.toInt_mod, z, Int.tmod_eq_emod_of_nonneg m.1]
  have q1 := Int.emod_nonneg (t &&& (2147483647 : Int32)).toInt (show (6 - (n : Int)) ≠ 0 by omega)
  have q2 := Int.emod_lt_of_pos (t &&& (2147483647 : Int32)).toInt (show 0 < (6 - (n : Int)) by omega)
  have s : u.toInt = n + (t &&& (2147483647 : Int32)).toInt % (6 - n) := by rw [hu, own_add32] <;> rw [h, r] <;> omega
  refine ⟨u.toInt.toNat, by omega, by omega, by omega, ?_⟩
  rw [own_sub32] <;> rw [h] <;> omega
theorem own_bd {d w : Int32} {a t k : Nat} (hd : d.toInt = t - a) (ht : t ≤ 5) (hw : w.toInt = k) (h : ¬ d < w) : a + k ≤ 5 := by
  rw [Int32.lt_iff_toInt_lt] at h; omega
theorem own_plus {v k : Int32} {n i : Nat} (h : v.toInt = n) (hn : n ≤ 5) (hk : k.toInt = i) (hi : i ≤ 5) : (v + k).toInt = ((n + i : Nat) : Int) := by
  rw [own_add32] <;> rw [h, hk] <;> omega

theorem own_loop_nar (f g : Nat → Int32) (a k : Nat) : ∀ i, nar .boolean (own_loop f g a k i) = own_loop f g a k i := by
  induction k with
  | zero => intro i; simp only [own_loop]; decide
  | succ k ih =>
    intro i; simp only [own_loop]; split
    · exact ih _
    · decide
theorem ef_rm1 (m : MethodId) (x0 : Addr) (x1 : Int32) (x2 : Int32) (x3 : Addr) : entryFrame m #[(.ref x0), (.int x1), (.int x2), (.ref x3)] 5 = mkF m 0 #[.val (.ref x0), .val (.int x1), .val (.int x2), .val (.ref x3), .unset] [] := by first | (simp [entryFrame, mkF, argsToLocals, Value.category]; done) | rfl
def Q_rm1 (Z : State) (b1 : Addr) (at1 : Int32) (to1 : Int32) (w1 : Addr) (an : Nat) (tn : Nat) (wn : Nat) (f1 : Nat → Int32) (g1 : Nat → Int32) (h0 : Heap) (n0 : Nat) (v : Option Value) (h : Heap) (L : List Loc) : Prop := v = some (.int (own_sw f1 g1 an (to1 - at1) wn)) ∧ Fr n0 L ∧ h = h0
set_option maxRecDepth 65536 in
set_option maxHeartbeats 40000000 in
theorem rm1 (l : Launch) (Z : State) (a0 : Array Value) (hw : ∀ d ∈ tables_1, d.before a0 Z = true) (ws : List Jvm.Cond) (b1 : Addr) (at1 : Int32) (to1 : Int32) (w1 : Addr) (an : Nat) (tn : Nat) (wn : Nat) (f1 : Nat → Int32) (g1 : Nat → Int32) (h0 : Heap) (n0 : Nat) (Z0 : n0 ≤ h0.size) (F1 : ArF Z h0 b1 .byte 5 (fun q => (.int (f1 q)))) (F2 : ArF Z h0 w1 .byte wn (fun q => (.int (g1 q)))) (hat : at1.toInt = (an : Int)) (hdd : (to1 - at1).toInt = tn - an) (htn : tn ≤ 5) (hwn : wn < 2 ^ 31) :
    MetFree l (⟨"com/example/joinery/joinery/Bytes", "startsWith", "([BII[B)Z"⟩ : MethodName) (head1 (Jvm.Cond.code (⟨"com/example/joinery/joinery/Bytes", "startsWith", "([BII[B)Z"⟩ : MethodName) prog_1_method_15_code 5 (some .boolean) :: ws) ({ frames := 0, cells := 0, slots := 0, locals := 0 } : Room)) (fun a U => a = #[(.ref b1), (.int at1), (.int to1), (.ref w1)] ∧ Z.Warmed39 U.vm ∧ U.heap = h0) (fun _ _ _ _ _ => True) (fun _ U o U' => ∃ v L, o = .returned v ∧ Q_rm1 Z b1 at1 to1 w1 an tn wn f1 g1 h0 n0 v U'.heap L ∧ FrameEnd U o U' L ({ frames := 0, cells := 0, slots := 0, locals := 0 } : Room).cells ({ frames := 0, cells := 0, slots := 0, locals := 0 } : Room).slots) := by
  refine MetFree.of_bodySF (plainFor_of_name pn_0) hisR ?_
  intro p e s m args below meth c s₁ Bd hml0 hP hK
  obtain ⟨rfl, hZ, hh⟩ := hP
  have hx := Bd.exec
  have hby := Bd.bytes
  have hml : c.maxLocals = 5 := hml0
  have hown : s.vm.findClass "com/example/joinery/joinery/Bytes" = some m.cls := findClass_of_methodNamed Bd.named
  have hnm := (name_of_methodNamed Bd.named Bd.method).1
  have X0 : Stand p l e ({ frames := 0, cells := 0, slots := 0, locals := 0 } : Room) s m #[(.ref b1), (.int at1), (.int to1), (.ref w1)] below meth c s₁ [] 0 0 := Stand.of_body Bd
  have e0 : s₁.heap = h0 := by rw [← hh, Bd.state]; rfl
  have N0 := Fr.nil n0
  have pre0 : ∀ t, Steps p.tables e below (s₁.setTop (mkF m 0 #[.val (.ref b1), .val (.int at1), .val (.int to1), .val (.ref w1), .unset] [])) t → Steps p.tables e below (s₁.setTop (entryFrame m #[(.ref b1), (.int at1), (.int to1), (.ref w1)] 5)) t := fun t k => castTop (ef_rm1 m b1 at1 to1 w1) k
  have S3 : ∀ t, Steps p.tables e below (s₁.setTop (mkF m 5 #[.val (.ref b1), .val (.int at1), .val (.int to1), .val (.ref w1), .unset] [(.int (Int32.ofNat wn)), (.int (to1 - at1))])) t → Steps p.tables e below (s₁.setTop (mkF m 0 #[.val (.ref b1), .val (.int at1), .val (.int to1), .val (.ref w1), .unset] [])) t := by
    intro t kt
    show Steps p.tables e below (s₁.setTop (mkF m 0 #[.val (.ref b1), .val (.int at1), .val (.int to1), .val (.ref w1), .unset] [])) _
    refine XS.iloadN X0.here hx rfl (hb hby d1_0) rfl ?_
    show Steps p.tables e below (s₁.setTop (mkF m 1 #[.val (.ref b1), .val (.int at1), .val (.int to1), .val (.ref w1), .unset] [(.int to1)])) _
    refine XS.iloadN X0.here hx rfl (hb hby d1_1) rfl ?_
    show Steps p.tables e below (s₁.setTop (mkF m 2 #[.val (.ref b1), .val (.int at1), .val (.int to1), .val (.ref w1), .unset] [(.int at1), (.int to1)])) _
    refine XS.isub X0.here hx rfl (hb hby d1_2) rfl ?_
    show Steps p.tables e below (s₁.setTop (mkF m 3 #[.val (.ref b1), .val (.int at1), .val (.int to1), .val (.ref w1), .unset] [(.int (to1 - at1))])) _
    refine XS.aloadN X0.here hx rfl (hb hby d1_3) rfl rfl ?_
    show Steps p.tables e below (s₁.setTop (mkF m 4 #[.val (.ref b1), .val (.int at1), .val (.int to1), .val (.ref w1), .unset] [(.ref w1), (.int (to1 - at1))])) _
    refine ArF.len X0 hx hZ e0 F2 (g := (mkF m 4 #[.val (.ref b1), .val (.int at1), .val (.int to1), .val (.ref w1), .unset] [(.ref w1), (.int (to1 - at1))])) rfl rfl (hb hby d1_4) _ ?_
    exact kt
  by_cases hc4 : (to1 - at1) < (Int32.ofNat wn)
  · have S5 : ∀ t, Steps p.tables e below (s₁.setTop (mkF m 9 #[.val (.ref b1), .val (.int at1), .val (.int to1), .val (.ref w1), .unset] [(.int (0 : Int32))])) t → Steps p.tables e below (s₁.setTop (mkF m 5 #[.val (.ref b1), .val (.int at1), .val (.int to1), .val (.ref w1), .unset] [(.int (Int32.ofNat wn)), (.int (to1 - at1))])) t := by
      intro t kt
      show Steps p.tables e below (s₁.setTop (mkF m 5 #[.val (.ref b1), .val (.int at1), .val (.int to1), .val (.ref w1), .unset] [(.int (Int32.ofNat wn)), (.int (to1 - at1))])) _
      refine XS.icmpNo X0.here hx rfl (hb hby d1_5) rfl (tlt hc4).2.1 ?_
      show Steps p.tables e below (s₁.setTop (mkF m 8 #[.val (.ref b1), .val (.int at1), .val (.int to1), .val (.ref w1), .unset] [])) _
      refine XS.iconst X0.here hx rfl (hb hby d1_8) ?_
      exact kt
    have C6 : ∀ t, Steps p.tables e below (s₁.setTop (mkF m 9 #[.val (.ref b1), .val (.int at1), .val (.int to1), .val (.ref w1), .unset] [(.int (0 : Int32))])) t → Steps p.tables e below (s₁.setTop (mkF m 0 #[.val (.ref b1), .val (.int at1), .val (.int to1), .val (.ref w1), .unset] [])) t := (fun t k => (S3 t (S5 t k)))
    obtain ⟨fs, hr, hrun, hended, hW, hsame⟩ := X0.leave (v := some (.int (0 : Int32))) (fun h => by rw [Bd.returns] at h; cases h)
    refine ⟨_, _, pre0 _ (C6 _ ?_), hrun, hended, _, _, rfl, ?_, ⟨_, rfl⟩, hW, hsame.mono (by decide) (by decide)⟩
    · exact retN X0 hx (t := .boolean) Bd.returns (by simp) (hb hby d1_9) hr
    · show Q_rm1 Z b1 at1 to1 w1 an tn wn f1 g1 h0 n0 _ s₁.heap _
      rw [e0]
      exact ⟨by simp only [own_sw, if_pos hc4] <;> rfl, N0, rfl⟩
  · have S7 : ∀ t, Steps p.tables e below (s₁.setTop (mkF m 13 #[.val (.ref b1), .val (.int at1), .val (.int to1), .val (.ref w1), .val (.int (0 : Int32))] [])) t → Steps p.tables e below (s₁.setTop (mkF m 5 #[.val (.ref b1), .val (.int at1), .val (.int to1), .val (.ref w1), .unset] [(.int (Int32.ofNat wn)), (.int (to1 - at1))])) t := by
      intro t kt
      show Steps p.tables e below (s₁.setTop (mkF m 5 #[.val (.ref b1), .val (.int at1), .val (.int to1), .val (.ref w1), .unset] [(.int (Int32.ofNat wn)), (.int (to1 - at1))])) _
      refine XS.icmpYes X0.here hx rfl (pc0 := 5) (pc' := 10) rfl (hb hby d1_5) rfl (flt hc4).2.1 (by decide) (by decide) ?_
      show Steps p.tables e below (s₁.setTop (mkF m 10 #[.val (.ref b1), .val (.int at1), .val (.int to1), .val (.ref w1), .unset] [])) _
      refine XS.iconst X0.here hx rfl (hb hby d1_10) ?_
      show Steps p.tables e below (s₁.setTop (mkF m 11 #[.val (.ref b1), .val (.int at1), .val (.int to1), .val (.ref w1), .unset] [(.int (0 : Int32))])) _
      refine XS.istore X0.here hx rfl (hb hby d1_11) rfl (l' := #[.val (.ref b1), .val (.int at1), .val (.int to1), .val (.ref w1), .val (.int (0 : Int32))]) rfl ?_
      exact kt
    have hab : an + wn ≤ 5 := own_bd hdd htn (own_ofNat hwn) hc4
    have LP : ∀ (k i : Nat) (iv : Int32), i + k = wn → iv.toInt = (i : Int) → ∃ (pc : Nat) (Ls : Array Slot), decode c.code pc = .ok (.ireturn, 1) ∧ ∀ t, Steps p.tables e below (s₁.setTop (mkF m pc Ls [(.int (own_loop f1 g1 an k i))])) t → Steps p.tables e below (s₁.setTop (mkF m 13 #[.val (.ref b1), .val (.int at1), .val (.int to1), .val (.ref w1), .val (.int iv)] [])) t := by
      intro k
      induction k with
      | zero =>
        intro i iv hi hiv
        have S8 : ∀ t, Steps p.tables e below (s₁.setTop (mkF m 42 #[.val (.ref b1), .val (.int at1), .val (.int to1), .val (.ref w1), .val (.int iv)] [(.int (1 : Int32))])) t → Steps p.tables e below (s₁.setTop (mkF m 13 #[.val (.ref b1), .val (.int at1), .val (.int to1), .val (.ref w1), .val (.int iv)] [])) t := by
          intro t kt
          show Steps p.tables e below (s₁.setTop (mkF m 13 #[.val (.ref b1), .val (.int at1), .val (.int to1), .val (.ref w1), .val (.int iv)] [])) _
          refine XS.iload X0.here hx rfl (hb hby d1_13) rfl ?_
          show Steps p.tables e below (s₁.setTop (mkF m 15 #[.val (.ref b1), .val (.int at1), .val (.int to1), .val (.ref w1), .val (.int iv)] [(.int iv)])) _
          refine XS.aloadN X0.here hx rfl (hb hby d1_15) rfl rfl ?_
          show Steps p.tables e below (s₁.setTop (mkF m 16 #[.val (.ref b1), .val (.int at1), .val (.int to1), .val (.ref w1), .val (.int iv)] [(.ref w1), (.int iv)])) _
          refine ArF.len X0 hx hZ e0 F2 (g := (mkF m 16 #[.val (.ref b1), .val (.int at1), .val (.int to1), .val (.ref w1), .val (.int iv)] [(.ref w1), (.int iv)])) rfl rfl (hb hby d1_16) _ ?_
          show Steps p.tables e below (s₁.setTop (mkF m 17 #[.val (.ref b1), .val (.int at1), .val (.int to1), .val (.ref w1), .val (.int iv)] [(.int (Int32.ofNat wn)), (.int iv)])) _
          refine XS.icmpYes X0.here hx rfl (pc0 := 17) (pc' := 41) rfl (hb hby d1_17) rfl (flt (by rw [Int32.lt_iff_toInt_lt, hiv, own_ofNat hwn]; omega)).2.1 (by decide) (by decide) ?_
          show Steps p.tables e below (s₁.setTop (mkF m 41 #[.val (.ref b1), .val (.int at1), .val (.int to1), .val (.ref w1), .val (.int iv)] [])) _
          refine XS.iconst X0.here hx rfl (hb hby d1_41) ?_
          exact kt
        exact ⟨42, #[.val (.ref b1), .val (.int at1), .val (.int to1), .val (.ref w1), .val (.int iv)], (hb hby d1_42), (fun t k => (S8 t k))⟩
      | succ k ih =>
        intro i iv hi hiv
        have S9 : ∀ t, Steps p.tables e below (s₁.setTop (mkF m 30 #[.val (.ref b1), .val (.int at1), .val (.int to1), .val (.ref w1), .val (.int iv)] [(.int (g1 i)), (.int (f1 (an + i)))])) t → Steps p.tables e below (s₁.setTop (mkF m 13 #[.val (.ref b1), .val (.int at1), .val (.int to1), .val (.ref w1), .val (.int iv)] [])) t := by
          intro t kt
          show Steps p.tables e below (s₁.setTop (mkF m 13 #[.val (.ref b1), .val (.int at1), .val (.int to1), .val (.ref w1), .val (.int iv)] [])) _
          refine XS.iload X0.here hx rfl (hb hby d1_13) rfl ?_
          show Steps p.tables e below (s₁.setTop (mkF m 15 #[.val (.ref b1), .val (.int at1), .val (.int to1), .val (.ref w1), .val (.int iv)] [(.int iv)])) _
          refine XS.aloadN X0.here hx rfl (hb hby d1_15) rfl rfl ?_
          show Steps p.tables e below (s₁.setTop (mkF m 16 #[.val (.ref b1), .val (.int at1), .val (.int to1), .val (.ref w1), .val (.int iv)] [(.ref w1), (.int iv)])) _
          refine ArF.len X0 hx hZ e0 F2 (g := (mkF m 16 #[.val (.ref b1), .val (.int at1), .val (.int to1), .val (.ref w1), .val (.int iv)] [(.ref w1), (.int iv)])) rfl rfl (hb hby d1_16) _ ?_
          show Steps p.tables e below (s₁.setTop (mkF m 17 #[.val (.ref b1), .val (.int at1), .val (.int to1), .val (.ref w1), .val (.int iv)] [(.int (Int32.ofNat wn)), (.int iv)])) _
          refine XS.icmpNo X0.here hx rfl (hb hby d1_17) rfl (tlt (by rw [Int32.lt_iff_toInt_lt, hiv, own_ofNat hwn]; omega)).2.1 ?_
          show Steps p.tables e below (s₁.setTop (mkF m 20 #[.val (.ref b1), .val (.int at1), .val (.int to1), .val (.ref w1), .val (.int iv)] [])) _
          refine XS.aloadN X0.here hx rfl (hb hby d1_20) rfl rfl ?_
          show Steps p.tables e below (s₁.setTop (mkF m 21 #[.val (.ref b1), .val (.int at1), .val (.int to1), .val (.ref w1), .val (.int iv)] [(.ref b1)])) _
          refine XS.iloadN X0.here hx rfl (hb hby d1_21) rfl ?_
          show Steps p.tables e below (s₁.setTop (mkF m 22 #[.val (.ref b1), .val (.int at1), .val (.int to1), .val (.ref w1), .val (.int iv)] [(.int at1), (.ref b1)])) _
          refine XS.iload X0.here hx rfl (hb hby d1_22) rfl ?_
          show Steps p.tables e below (s₁.setTop (mkF m 24 #[.val (.ref b1), .val (.int at1), .val (.int to1), .val (.ref w1), .val (.int iv)] [(.int iv), (.int at1), (.ref b1)])) _
          refine XS.iadd X0.here hx rfl (hb hby d1_24) rfl ?_
          show Steps p.tables e below (s₁.setTop (mkF m 25 #[.val (.ref b1), .val (.int at1), .val (.int to1), .val (.ref w1), .val (.int iv)] [(.int (at1 + iv)), (.ref b1)])) _
          refine ArF.ldB X0 hx hZ e0 F1 (i := (an + i)) (own_plus hat (by omega) hiv (by omega)) (by omega) (v := (f1 (an + i))) rfl (g := (mkF m 25 #[.val (.ref b1), .val (.int at1), .val (.int to1), .val (.ref w1), .val (.int iv)] [(.int (at1 + iv)), (.ref b1)])) rfl rfl (hb hby d1_25) _ ?_
          show Steps p.tables e below (s₁.setTop (mkF m 26 #[.val (.ref b1), .val (.int at1), .val (.int to1), .val (.ref w1), .val (.int iv)] [(.int (f1 (an + i)))])) _
          refine XS.aloadN X0.here hx rfl (hb hby d1_26) rfl rfl ?_
          show Steps p.tables e below (s₁.setTop (mkF m 27 #[.val (.ref b1), .val (.int at1), .val (.int to1), .val (.ref w1), .val (.int iv)] [(.ref w1), (.int (f1 (an + i)))])) _
          refine XS.iload X0.here hx rfl (hb hby d1_27) rfl ?_
          show Steps p.tables e below (s₁.setTop (mkF m 29 #[.val (.ref b1), .val (.int at1), .val (.int to1), .val (.ref w1), .val (.int iv)] [(.int iv), (.ref w1), (.int (f1 (an + i)))])) _
          refine ArF.ldB X0 hx hZ e0 F2 (i := i) hiv (by omega) (v := (g1 i)) rfl (g := (mkF m 29 #[.val (.ref b1), .val (.int at1), .val (.int to1), .val (.ref w1), .val (.int iv)] [(.int iv), (.ref w1), (.int (f1 (an + i)))])) rfl rfl (hb hby d1_29) _ ?_
          exact kt
        by_cases hc10 : (f1 (an + i)) = (g1 i)
        · have S11 : ∀ t, Steps p.tables e below (s₁.setTop (mkF m 13 #[.val (.ref b1), .val (.int at1), .val (.int to1), .val (.ref w1), .val (.int (iv + (1 : Int32)))] [])) t → Steps p.tables e below (s₁.setTop (mkF m 30 #[.val (.ref b1), .val (.int at1), .val (.int to1), .val (.ref w1), .val (.int iv)] [(.int (g1 i)), (.int (f1 (an + i)))])) t := by
            intro t kt
            show Steps p.tables e below (s₁.setTop (mkF m 30 #[.val (.ref b1), .val (.int at1), .val (.int to1), .val (.ref w1), .val (.int iv)] [(.int (g1 i)), (.int (f1 (an + i)))])) _
            refine XS.icmpYes X0.here hx rfl (pc0 := 30) (pc' := 35) rfl (hb hby d1_30) rfl (teq hc10).1 (by decide) (by decide) ?_
            show Steps p.tables e below (s₁.setTop (mkF m 35 #[.val (.ref b1), .val (.int at1), .val (.int to1), .val (.ref w1), .val (.int iv)] [])) _
            refine XS.iinc X0.here hx rfl (hb hby d1_35) rfl (l' := #[.val (.ref b1), .val (.int at1), .val (.int to1), .val (.ref w1), .val (.int (iv + (1 : Int32)))]) rfl ?_
            show Steps p.tables e below (s₁.setTop (mkF m 38 #[.val (.ref b1), .val (.int at1), .val (.int to1), .val (.ref w1), .val (.int (iv + (1 : Int32)))] [])) _
            refine XS.goto X0.here hx rfl (pc0 := 38) (pc' := 13) rfl (hb hby d1_38) (by decide) (by decide) ?_
            exact kt
          obtain ⟨pc, Ls, hd, st⟩ := ih (i + 1) (iv + (1 : Int32)) (by omega) (by rw [own_add32] <;> rw [hiv, own_i32.2.1] <;> omega)
          refine ⟨pc, Ls, hd, fun t k => (fun t k => (S9 t (S11 t k))) t (st t ?_)⟩
          simp only [own_loop, if_pos hc10] at k
          exact k
        · have S12 : ∀ t, Steps p.tables e below (s₁.setTop (mkF m 34 #[.val (.ref b1), .val (.int at1), .val (.int to1), .val (.ref w1), .val (.int iv)] [(.int (0 : Int32))])) t → Steps p.tables e below (s₁.setTop (mkF m 30 #[.val (.ref b1), .val (.int at1), .val (.int to1), .val (.ref w1), .val (.int iv)] [(.int (g1 i)), (.int (f1 (an + i)))])) t := by
            intro t kt
            show Steps p.tables e below (s₁.setTop (mkF m 30 #[.val (.ref b1), .val (.int at1), .val (.int to1), .val (.ref w1), .val (.int iv)] [(.int (g1 i)), (.int (f1 (an + i)))])) _
            refine XS.icmpNo X0.here hx rfl (hb hby d1_30) rfl (feq hc10).1 ?_
            show Steps p.tables e below (s₁.setTop (mkF m 33 #[.val (.ref b1), .val (.int at1), .val (.int to1), .val (.ref w1), .val (.int iv)] [])) _
            refine XS.iconst X0.here hx rfl (hb hby d1_33) ?_
            exact kt
          refine ⟨34, #[.val (.ref b1), .val (.int at1), .val (.int to1), .val (.ref w1), .val (.int iv)], (hb hby d1_34), fun t k => (fun t k => (S9 t (S12 t k))) t ?_⟩
          simp only [own_loop, if_neg hc10] at k
          exact k
    obtain ⟨pc, Ls, hd, st⟩ := LP wn 0 (0 : Int32) (by omega) own_i32.1
    obtain ⟨fs, hr, hrun, hended, hW, hsame⟩ := X0.leave (v := some (.int (nar .boolean (own_loop f1 g1 an wn 0)))) (fun h => by rw [Bd.returns] at h; cases h)
    refine ⟨_, _, pre0 _ ((fun t k => (S3 t (S7 t k))) _ (st _ ?_)), hrun, hended, _, _, rfl, ?_, ⟨_, rfl⟩, hW, hsame.mono (by decide) (by decide)⟩
    · exact retN X0 hx (t := .boolean) Bd.returns (by simp) hd hr
    · show Q_rm1 Z b1 at1 to1 w1 an tn wn f1 g1 h0 n0 _ s₁.heap _
      rw [e0]
      exact ⟨by simp only [own_sw, if_neg hc4]; rw [own_loop_nar], N0, rfl⟩
theorem ef_rm0 (m : MethodId) (x0 : Int64) (x1 : Int32) (x2 : Int32) (x3 : Int32) (x4 : Int32) : entryFrame m #[(.long x0), (.int x1), (.int x2), (.int x3), (.int x4)] maxLocals = mkF m 0 #[.val (.long x0), .second, .val (.int x1), .val (.int x2), .val (.int x3), .val (.int x4), .unset, .unset, .unset, .unset, .unset, .unset, .unset, .unset, .unset, .unset] [] := by first | (simp [entryFrame, mkF, argsToLocals, Value.category, maxLocals]; done) | rfl
def Q_rm0 (Z : State) (l1 : Int64) (w1 : Int32) (n1 : Int32) (a1 : Int32) (t1 : Int32) (h0 : Heap) (n0 : Nat) (v : Option Value) (h : Heap) (L : List Loc) : Prop := v = some (.int 1) ∧ Fr n0 L
set_option maxRecDepth 65536 in
set_option maxHeartbeats 40000000 in
theorem rm0 (l : Launch) (Z : State) (a0 : Array Value) (hw : ∀ d ∈ tables_1, d.before a0 Z = true) (ws : List Jvm.Cond) (l1 : Int64) (w1 : Int32) (n1 : Int32) (a1 : Int32) (t1 : Int32) (h0 : Heap) (n0 : Nat) (Z0 : n0 ≤ h0.size)  :
    MetFree l x (head1 (Jvm.Cond.code x code maxLocals ret :: ws) room_1) (fun a U => a = #[(.long l1), (.int w1), (.int n1), (.int a1), (.int t1)] ∧ Z.Warmed39 U.vm ∧ U.heap = h0) (fun _ _ _ _ _ => True) (fun _ U o U' => ∃ v L, o = .returned v ∧ Q_rm0 Z l1 w1 n1 a1 t1 h0 n0 v U'.heap L ∧ FrameEnd U o U' L room_1.cells room_1.slots) := by
  refine MetFree.of_bodySF (plainFor_of_name pn_1) hisR ?_
  intro p e s m args below meth c s₁ Bd hml0 hP hK
  obtain ⟨rfl, hZ, hh⟩ := hP
  have hx := Bd.exec
  have hby := Bd.bytes
  have hml : c.maxLocals = 16 := hml0
  have hown : s.vm.findClass "com/example/joinery/joinery/BytesStartsWithPinLaw" = some m.cls := findClass_of_methodNamed Bd.named
  have hnm := (name_of_methodNamed Bd.named Bd.method).1
  have X0 : Stand p l e room_1 s m #[(.long l1), (.int w1), (.int n1), (.int a1), (.int t1)] below meth c s₁ [] 0 0 := Stand.of_body Bd
  have e0 : s₁.heap = h0 := by rw [← hh, Bd.state]; rfl
  have N0 := Fr.nil n0
  have pre0 : ∀ t, Steps p.tables e below (s₁.setTop (mkF m 0 #[.val (.long l1), .second, .val (.int w1), .val (.int n1), .val (.int a1), .val (.int t1), .unset, .unset, .unset, .unset, .unset, .unset, .unset, .unset, .unset, .unset] [])) t → Steps p.tables e below (s₁.setTop (entryFrame m #[(.long l1), (.int w1), (.int n1), (.int a1), (.int t1)] maxLocals)) t := fun t k => castTop (ef_rm0 m l1 w1 n1 a1 t1) k
  have S14 : ∀ t, Steps p.tables e below (s₁.setTop (mkF m 1 #[.val (.long l1), .second, .val (.int w1), .val (.int n1), .val (.int a1), .val (.int t1), .unset, .unset, .unset, .unset, .unset, .unset, .unset, .unset, .unset, .unset] [(.int (5 : Int32))])) t → Steps p.tables e below (s₁.setTop (mkF m 0 #[.val (.long l1), .second, .val (.int w1), .val (.int n1), .val (.int a1), .val (.int t1), .unset, .unset, .unset, .unset, .unset, .unset, .unset, .unset, .unset, .unset] [])) t := by
    intro t kt
    show Steps p.tables e below (s₁.setTop (mkF m 0 #[.val (.long l1), .second, .val (.int w1), .val (.int n1), .val (.int a1), .val (.int t1), .unset, .unset, .unset, .unset, .unset, .unset, .unset, .unset, .unset, .unset] [])) _
    refine XS.iconst X0.here hx rfl (hb hby at_0) ?_
    exact kt
  obtain ⟨T15, h15, k15, X15, e15, E15, A15, st15⟩ := newP X0 hx hZ (hw _ (List.mem_of_getElem? (i := 0) rfl)) e0 (g := (mkF m 1 #[.val (.long l1), .second, .val (.int w1), .val (.int n1), .val (.int a1), .val (.int t1), .unset, .unset, .unset, .unset, .unset, .unset, .unset, .unset, .unset, .unset] [(.int (5 : Int32))])) rfl (hb hby at_1) rfl (by decide) (cap := 5) (by decide) (by decide) (by decide) (by decide)
  obtain ⟨b15, g15⟩ : ∃ z, z = h0.size := ⟨_, rfl⟩
  rw [← g15] at A15 st15
  have g_b15 : n0 ≤ b15 := Nat.le_trans Z0 (Nat.le_of_eq g15.symm)
  have K16 := (Keep.refl h0 [])
  have sz_b15 : h0.size ≤ b15 := Nat.le_trans K16.1 (Nat.le_of_eq g15.symm)
  have z17 : n0 ≤ h15.size := Nat.le_trans Z0 E15.1
  have V15 : ArF Z h15 b15 .byte 5 (fun _ => (.int (0 : Int32))) := ArF.new A15 (by decide) rfl
  have S19 : ∀ t, Steps p.tables e below (T15.setTop (mkF m 11 #[.val (.long l1), .second, .val (.int w1), .val (.int n1), .val (.int a1), .val (.int t1), .val (.ref b15), .unset, .unset, .unset, .unset, .unset, .unset, .unset, .unset, .unset] [(.int ((l1.toInt32).toInt8.toInt32)), (.int (0 : Int32)), (.ref b15)])) t → Steps p.tables e below (T15.setTop (mkF m 3 #[.val (.long l1), .second, .val (.int w1), .val (.int n1), .val (.int a1), .val (.int t1), .unset, .unset, .unset, .unset, .unset, .unset, .unset, .unset, .unset, .unset] [(.ref b15)])) t := by
    intro t kt
    show Steps p.tables e below (T15.setTop (mkF m 3 #[.val (.long l1), .second, .val (.int w1), .val (.int n1), .val (.int a1), .val (.int t1), .unset, .unset, .unset, .unset, .unset, .unset, .unset, .unset, .unset, .unset] [(.ref b15)])) _
    refine XS.astore X15.here hx rfl (hb hby at_3) rfl rfl (l' := #[.val (.long l1), .second, .val (.int w1), .val (.int n1), .val (.int a1), .val (.int t1), .val (.ref b15), .unset, .unset, .unset, .unset, .unset, .unset, .unset, .unset, .unset]) rfl ?_
    show Steps p.tables e below (T15.setTop (mkF m 5 #[.val (.long l1), .second, .val (.int w1), .val (.int n1), .val (.int a1), .val (.int t1), .val (.ref b15), .unset, .unset, .unset, .unset, .unset, .unset, .unset, .unset, .unset] [])) _
    refine XS.aload X15.here hx rfl (hb hby at_5) rfl rfl ?_
    show Steps p.tables e below (T15.setTop (mkF m 7 #[.val (.long l1), .second, .val (.int w1), .val (.int n1), .val (.int a1), .val (.int t1), .val (.ref b15), .unset, .unset, .unset, .unset, .unset, .unset, .unset, .unset, .unset] [(.ref b15)])) _
    refine XS.iconst X15.here hx rfl (hb hby at_7) ?_
    show Steps p.tables e below (T15.setTop (mkF m 8 #[.val (.long l1), .second, .val (.int w1), .val (.int n1), .val (.int a1), .val (.int t1), .val (.ref b15), .unset, .unset, .unset, .unset, .unset, .unset, .unset, .unset, .unset] [(.int (0 : Int32)), (.ref b15)])) _
    refine XS.lloadN X15.here hx rfl (hb hby at_8) rfl ?_
    show Steps p.tables e below (T15.setTop (mkF m 9 #[.val (.long l1), .second, .val (.int w1), .val (.int n1), .val (.int a1), .val (.int t1), .val (.ref b15), .unset, .unset, .unset, .unset, .unset, .unset, .unset, .unset, .unset] [(.long l1), (.int (0 : Int32)), (.ref b15)])) _
    refine XS.l2i X15.here hx rfl (hb hby at_9) rfl ?_
    show Steps p.tables e below (T15.setTop (mkF m 10 #[.val (.long l1), .second, .val (.int w1), .val (.int n1), .val (.int a1), .val (.int t1), .val (.ref b15), .unset, .unset, .unset, .unset, .unset, .unset, .unset, .unset, .unset] [(.int (l1.toInt32)), (.int (0 : Int32)), (.ref b15)])) _
    refine XS.i2b X15.here hx rfl (hb hby at_10) rfl ?_
    exact kt
  obtain ⟨v18, hv18⟩ : ∃ z : Int32, z = ((l1.toInt32).toInt8.toInt32) := ⟨_, rfl⟩
  have S20 : ∀ t, Steps p.tables e below (T15.setTop (mkF m 11 #[.val (.long l1), .second, .val (.int w1), .val (.int n1), .val (.int a1), .val (.int t1), .val (.ref b15), .unset, .unset, .unset, .unset, .unset, .unset, .unset, .unset, .unset] [(.int v18), (.int (0 : Int32)), (.ref b15)])) t → Steps p.tables e below (T15.setTop (mkF m 11 #[.val (.long l1), .second, .val (.int w1), .val (.int n1), .val (.int a1), .val (.int t1), .val (.ref b15), .unset, .unset, .unset, .unset, .unset, .unset, .unset, .unset, .unset] [(.int ((l1.toInt32).toInt8.toInt32)), (.int (0 : Int32)), (.ref b15)])) t := fun t k => by rw [hv18.symm]; exact k
  have nbv18 : nar .byte v18 = v18 := by rw [hv18]; exact own_narb _
  obtain ⟨T21, h21, X21, e21, W21, V21, st21⟩ := ArF.stB X15 hx hZ e15 V15 (i := 0) (by decide) (by decide) (g := (mkF m 11 #[.val (.long l1), .second, .val (.int w1), .val (.int n1), .val (.int a1), .val (.int t1), .val (.ref b15), .unset, .unset, .unset, .unset, .unset, .unset, .unset, .unset, .unset] [(.int v18), (.int (0 : Int32)), (.ref b15)])) rfl rfl (hb hby at_11)
  have z22 : n0 ≤ h21.size := Nat.le_trans z17 (Keep.of_wr W21).1
  have N23 := Fr.snoc X21 N0 g_b15
  have S25 : ∀ t, Steps p.tables e below (T21.setTop (mkF m 21 #[.val (.long l1), .second, .val (.int w1), .val (.int n1), .val (.int a1), .val (.int t1), .val (.ref b15), .unset, .unset, .unset, .unset, .unset, .unset, .unset, .unset, .unset] [(.int ((((l1.toUInt64 >>> ((8 : Int32) &&& 0x3f).toInt64.toUInt64).toInt64).toInt32).toInt8.toInt32)), (.int (1 : Int32)), (.ref b15)])) t → Steps p.tables e below (T21.setTop (mkF m 12 #[.val (.long l1), .second, .val (.int w1), .val (.int n1), .val (.int a1), .val (.int t1), .val (.ref b15), .unset, .unset, .unset, .unset, .unset, .unset, .unset, .unset, .unset] [])) t := by
    intro t kt
    show Steps p.tables e below (T21.setTop (mkF m 12 #[.val (.long l1), .second, .val (.int w1), .val (.int n1), .val (.int a1), .val (.int t1), .val (.ref b15), .unset, .unset, .unset, .unset, .unset, .unset, .unset, .unset, .unset] [])) _
    refine XS.aload X21.here hx rfl (hb hby at_12) rfl rfl ?_
    show Steps p.tables e below (T21.setTop (mkF m 14 #[.val (.long l1), .second, .val (.int w1), .val (.int n1), .val (.int a1), .val (.int t1), .val (.ref b15), .unset, .unset, .unset, .unset, .unset, .unset, .unset, .unset, .unset] [(.ref b15)])) _
    refine XS.iconst X21.here hx rfl (hb hby at_14) ?_
    show Steps p.tables e below (T21.setTop (mkF m 15 #[.val (.long l1), .second, .val (.int w1), .val (.int n1), .val (.int a1), .val (.int t1), .val (.ref b15), .unset, .unset, .unset, .unset, .unset, .unset, .unset, .unset, .unset] [(.int (1 : Int32)), (.ref b15)])) _
    refine XS.lloadN X21.here hx rfl (hb hby at_15) rfl ?_
    show Steps p.tables e below (T21.setTop (mkF m 16 #[.val (.long l1), .second, .val (.int w1), .val (.int n1), .val (.int a1), .val (.int t1), .val (.ref b15), .unset, .unset, .unset, .unset, .unset, .unset, .unset, .unset, .unset] [(.long l1), (.int (1 : Int32)), (.ref b15)])) _
    refine XS.bipush X21.here hx rfl (hb hby at_16) ?_
    show Steps p.tables e below (T21.setTop (mkF m 18 #[.val (.long l1), .second, .val (.int w1), .val (.int n1), .val (.int a1), .val (.int t1), .val (.ref b15), .unset, .unset, .unset, .unset, .unset, .unset, .unset, .unset, .unset] [(.int (8 : Int32)), (.long l1), (.int (1 : Int32)), (.ref b15)])) _
    refine XS.lushr X21.here hx rfl (hb hby at_18) rfl ?_
    show Steps p.tables e below (T21.setTop (mkF m 19 #[.val (.long l1), .second, .val (.int w1), .val (.int n1), .val (.int a1), .val (.int t1), .val (.ref b15), .unset, .unset, .unset, .unset, .unset, .unset, .unset, .unset, .unset] [(.long ((l1.toUInt64 >>> ((8 : Int32) &&& 0x3f).toInt64.toUInt64).toInt64)), (.int (1 : Int32)), (.ref b15)])) _
    refine XS.l2i X21.here hx rfl (hb hby at_19) rfl ?_
    show Steps p.tables e below (T21.setTop (mkF m 20 #[.val (.long l1), .second, .val (.int w1), .val (.int n1), .val (.int a1), .val (.int t1), .val (.ref b15), .unset, .unset, .unset, .unset, .unset, .unset, .unset, .unset, .unset] [(.int (((l1.toUInt64 >>> ((8 : Int32) &&& 0x3f).toInt64.toUInt64).toInt64).toInt32)), (.int (1 : Int32)), (.ref b15)])) _
    refine XS.i2b X21.here hx rfl (hb hby at_20) rfl ?_
    exact kt
  obtain ⟨v24, hv24⟩ : ∃ z : Int32, z = ((((l1.toUInt64 >>> ((8 : Int32) &&& 0x3f).toInt64.toUInt64).toInt64).toInt32).toInt8.toInt32) := ⟨_, rfl⟩
  have S26 : ∀ t, Steps p.tables e below (T21.setTop (mkF m 21 #[.val (.long l1), .second, .val (.int w1), .val (.int n1), .val (.int a1), .val (.int t1), .val (.ref b15), .unset, .unset, .unset, .unset, .unset, .unset, .unset, .unset, .unset] [(.int v24), (.int (1 : Int32)), (.ref b15)])) t → Steps p.tables e below (T21.setTop (mkF m 21 #[.val (.long l1), .second, .val (.int w1), .val (.int n1), .val (.int a1), .val (.int t1), .val (.ref b15), .unset, .unset, .unset, .unset, .unset, .unset, .unset, .unset, .unset] [(.int ((((l1.toUInt64 >>> ((8 : Int32) &&& 0x3f).toInt64.toUInt64).toInt64).toInt32).toInt8.toInt32)), (.int (1 : Int32)), (.ref b15)])) t := fun t k => by rw [hv24.symm]; exact k
  have nbv24 : nar .byte v24 = v24 := by rw [hv24]; exact own_narb _
  obtain ⟨T27, h27, X27, e27, W27, V27, st27⟩ := ArF.stB X21 hx hZ e21 V21 (i := 1) (by decide) (by decide) (g := (mkF m 21 #[.val (.long l1), .second, .val (.int w1), .val (.int n1), .val (.int a1), .val (.int t1), .val (.ref b15), .unset, .unset, .unset, .unset, .unset, .unset, .unset, .unset, .unset] [(.int v24), (.int (1 : Int32)), (.ref b15)])) rfl rfl (hb hby at_21)
  have z28 : n0 ≤ h27.size := Nat.le_trans z22 (Keep.of_wr W27).1
  have N29 := Fr.snoc X27 N23 g_b15
  have S31 : ∀ t, Steps p.tables e below (T27.setTop (mkF m 31 #[.val (.long l1), .second, .val (.int w1), .val (.int n1), .val (.int a1), .val (.int t1), .val (.ref b15), .unset, .unset, .unset, .unset, .unset, .unset, .unset, .unset, .unset] [(.int ((((l1.toUInt64 >>> ((16 : Int32) &&& 0x3f).toInt64.toUInt64).toInt64).toInt32).toInt8.toInt32)), (.int (2 : Int32)), (.ref b15)])) t → Steps p.tables e below (T27.setTop (mkF m 22 #[.val (.long l1), .second, .val (.int w1), .val (.int n1), .val (.int a1), .val (.int t1), .val (.ref b15), .unset, .unset, .unset, .unset, .unset, .unset, .unset, .unset, .unset] [])) t := by
    intro t kt
    show Steps p.tables e below (T27.setTop (mkF m 22 #[.val (.long l1), .second, .val (.int w1), .val (.int n1), .val (.int a1), .val (.int t1), .val (.ref b15), .unset, .unset, .unset, .unset, .unset, .unset, .unset, .unset, .unset] [])) _
    refine XS.aload X27.here hx rfl (hb hby at_22) rfl rfl ?_
    show Steps p.tables e below (T27.setTop (mkF m 24 #[.val (.long l1), .second, .val (.int w1), .val (.int n1), .val (.int a1), .val (.int t1), .val (.ref b15), .unset, .unset, .unset, .unset, .unset, .unset, .unset, .unset, .unset] [(.ref b15)])) _
    refine XS.iconst X27.here hx rfl (hb hby at_24) ?_
    show Steps p.tables e below (T27.setTop (mkF m 25 #[.val (.long l1), .second, .val (.int w1), .val (.int n1), .val (.int a1), .val (.int t1), .val (.ref b15), .unset, .unset, .unset, .unset, .unset, .unset, .unset, .unset, .unset] [(.int (2 : Int32)), (.ref b15)])) _
    refine XS.lloadN X27.here hx rfl (hb hby at_25) rfl ?_
    show Steps p.tables e below (T27.setTop (mkF m 26 #[.val (.long l1), .second, .val (.int w1), .val (.int n1), .val (.int a1), .val (.int t1), .val (.ref b15), .unset, .unset, .unset, .unset, .unset, .unset, .unset, .unset, .unset] [(.long l1), (.int (2 : Int32)), (.ref b15)])) _
    refine XS.bipush X27.here hx rfl (hb hby at_26) ?_
    show Steps p.tables e below (T27.setTop (mkF m 28 #[.val (.long l1), .second, .val (.int w1), .val (.int n1), .val (.int a1), .val (.int t1), .val (.ref b15), .unset, .unset, .unset, .unset, .unset, .unset, .unset, .unset, .unset] [(.int (16 : Int32)), (.long l1), (.int (2 : Int32)), (.ref b15)])) _
    refine XS.lushr X27.here hx rfl (hb hby at_28) rfl ?_
    show Steps p.tables e below (T27.setTop (mkF m 29 #[.val (.long l1), .second, .val (.int w1), .val (.int n1), .val (.int a1), .val (.int t1), .val (.ref b15), .unset, .unset, .unset, .unset, .unset, .unset, .unset, .unset, .unset] [(.long ((l1.toUInt64 >>> ((16 : Int32) &&& 0x3f).toInt64.toUInt64).toInt64)), (.int (2 : Int32)), (.ref b15)])) _
    refine XS.l2i X27.here hx rfl (hb hby at_29) rfl ?_
    show Steps p.tables e below (T27.setTop (mkF m 30 #[.val (.long l1), .second, .val (.int w1), .val (.int n1), .val (.int a1), .val (.int t1), .val (.ref b15), .unset, .unset, .unset, .unset, .unset, .unset, .unset, .unset, .unset] [(.int (((l1.toUInt64 >>> ((16 : Int32) &&& 0x3f).toInt64.toUInt64).toInt64).toInt32)), (.int (2 : Int32)), (.ref b15)])) _
    refine XS.i2b X27.here hx rfl (hb hby at_30) rfl ?_
    exact kt
  obtain ⟨v30, hv30⟩ : ∃ z : Int32, z = ((((l1.toUInt64 >>> ((16 : Int32) &&& 0x3f).toInt64.toUInt64).toInt64).toInt32).toInt8.toInt32) := ⟨_, rfl⟩
  have S32 : ∀ t, Steps p.tables e below (T27.setTop (mkF m 31 #[.val (.long l1), .second, .val (.int w1), .val (.int n1), .val (.int a1), .val (.int t1), .val (.ref b15), .unset, .unset, .unset, .unset, .unset, .unset, .unset, .unset, .unset] [(.int v30), (.int (2 : Int32)), (.ref b15)])) t → Steps p.tables e below (T27.setTop (mkF m 31 #[.val (.long l1), .second, .val (.int w1), .val (.int n1), .val (.int a1), .val (.int t1), .val (.ref b15), .unset, .unset, .unset, .unset, .unset, .unset, .unset, .unset, .unset] [(.int ((((l1.toUInt64 >>> ((16 : Int32) &&& 0x3f).toInt64.toUInt64).toInt64).toInt32).toInt8.toInt32)), (.int (2 : Int32)), (.ref b15)])) t := fun t k => by rw [hv30.symm]; exact k
  have nbv30 : nar .byte v30 = v30 := by rw [hv30]; exact own_narb _
  obtain ⟨T33, h33, X33, e33, W33, V33, st33⟩ := ArF.stB X27 hx hZ e27 V27 (i := 2) (by decide) (by decide) (g := (mkF m 31 #[.val (.long l1), .second, .val (.int w1), .val (.int n1), .val (.int a1), .val (.int t1), .val (.ref b15), .unset, .unset, .unset, .unset, .unset, .unset, .unset, .unset, .unset] [(.int v30), (.int (2 : Int32)), (.ref b15)])) rfl rfl (hb hby at_31)
  have z34 : n0 ≤ h33.size := Nat.le_trans z28 (Keep.of_wr W33).1
  have N35 := Fr.snoc X33 N29 g_b15
  have S37 : ∀ t, Steps p.tables e below (T33.setTop (mkF m 41 #[.val (.long l1), .second, .val (.int w1), .val (.int n1), .val (.int a1), .val (.int t1), .val (.ref b15), .unset, .unset, .unset, .unset, .unset, .unset, .unset, .unset, .unset] [(.int ((((l1.toUInt64 >>> ((24 : Int32) &&& 0x3f).toInt64.toUInt64).toInt64).toInt32).toInt8.toInt32)), (.int (3 : Int32)), (.ref b15)])) t → Steps p.tables e below (T33.setTop (mkF m 32 #[.val (.long l1), .second, .val (.int w1), .val (.int n1), .val (.int a1), .val (.int t1), .val (.ref b15), .unset, .unset, .unset, .unset, .unset, .unset, .unset, .unset, .unset] [])) t := by
    intro t kt
    show Steps p.tables e below (T33.setTop (mkF m 32 #[.val (.long l1), .second, .val (.int w1), .val (.int n1), .val (.int a1), .val (.int t1), .val (.ref b15), .unset, .unset, .unset, .unset, .unset, .unset, .unset, .unset, .unset] [])) _
    refine XS.aload X33.here hx rfl (hb hby at_32) rfl rfl ?_
    show Steps p.tables e below (T33.setTop (mkF m 34 #[.val (.long l1), .second, .val (.int w1), .val (.int n1), .val (.int a1), .val (.int t1), .val (.ref b15), .unset, .unset, .unset, .unset, .unset, .unset, .unset, .unset, .unset] [(.ref b15)])) _
    refine XS.iconst X33.here hx rfl (hb hby at_34) ?_
    show Steps p.tables e below (T33.setTop (mkF m 35 #[.val (.long l1), .second, .val (.int w1), .val (.int n1), .val (.int a1), .val (.int t1), .val (.ref b15), .unset, .unset, .unset, .unset, .unset, .unset, .unset, .unset, .unset] [(.int (3 : Int32)), (.ref b15)])) _
    refine XS.lloadN X33.here hx rfl (hb hby at_35) rfl ?_
    show Steps p.tables e below (T33.setTop (mkF m 36 #[.val (.long l1), .second, .val (.int w1), .val (.int n1), .val (.int a1), .val (.int t1), .val (.ref b15), .unset, .unset, .unset, .unset, .unset, .unset, .unset, .unset, .unset] [(.long l1), (.int (3 : Int32)), (.ref b15)])) _
    refine XS.bipush X33.here hx rfl (hb hby at_36) ?_
    show Steps p.tables e below (T33.setTop (mkF m 38 #[.val (.long l1), .second, .val (.int w1), .val (.int n1), .val (.int a1), .val (.int t1), .val (.ref b15), .unset, .unset, .unset, .unset, .unset, .unset, .unset, .unset, .unset] [(.int (24 : Int32)), (.long l1), (.int (3 : Int32)), (.ref b15)])) _
    refine XS.lushr X33.here hx rfl (hb hby at_38) rfl ?_
    show Steps p.tables e below (T33.setTop (mkF m 39 #[.val (.long l1), .second, .val (.int w1), .val (.int n1), .val (.int a1), .val (.int t1), .val (.ref b15), .unset, .unset, .unset, .unset, .unset, .unset, .unset, .unset, .unset] [(.long ((l1.toUInt64 >>> ((24 : Int32) &&& 0x3f).toInt64.toUInt64).toInt64)), (.int (3 : Int32)), (.ref b15)])) _
    refine XS.l2i X33.here hx rfl (hb hby at_39) rfl ?_
    show Steps p.tables e below (T33.setTop (mkF m 40 #[.val (.long l1), .second, .val (.int w1), .val (.int n1), .val (.int a1), .val (.int t1), .val (.ref b15), .unset, .unset, .unset, .unset, .unset, .unset, .unset, .unset, .unset] [(.int (((l1.toUInt64 >>> ((24 : Int32) &&& 0x3f).toInt64.toUInt64).toInt64).toInt32)), (.int (3 : Int32)), (.ref b15)])) _
    refine XS.i2b X33.here hx rfl (hb hby at_40) rfl ?_
    exact kt
  obtain ⟨v36, hv36⟩ : ∃ z : Int32, z = ((((l1.toUInt64 >>> ((24 : Int32) &&& 0x3f).toInt64.toUInt64).toInt64).toInt32).toInt8.toInt32) := ⟨_, rfl⟩
  have S38 : ∀ t, Steps p.tables e below (T33.setTop (mkF m 41 #[.val (.long l1), .second, .val (.int w1), .val (.int n1), .val (.int a1), .val (.int t1), .val (.ref b15), .unset, .unset, .unset, .unset, .unset, .unset, .unset, .unset, .unset] [(.int v36), (.int (3 : Int32)), (.ref b15)])) t → Steps p.tables e below (T33.setTop (mkF m 41 #[.val (.long l1), .second, .val (.int w1), .val (.int n1), .val (.int a1), .val (.int t1), .val (.ref b15), .unset, .unset, .unset, .unset, .unset, .unset, .unset, .unset, .unset] [(.int ((((l1.toUInt64 >>> ((24 : Int32) &&& 0x3f).toInt64.toUInt64).toInt64).toInt32).toInt8.toInt32)), (.int (3 : Int32)), (.ref b15)])) t := fun t k => by rw [hv36.symm]; exact k
  have nbv36 : nar .byte v36 = v36 := by rw [hv36]; exact own_narb _
  obtain ⟨T39, h39, X39, e39, W39, V39, st39⟩ := ArF.stB X33 hx hZ e33 V33 (i := 3) (by decide) (by decide) (g := (mkF m 41 #[.val (.long l1), .second, .val (.int w1), .val (.int n1), .val (.int a1), .val (.int t1), .val (.ref b15), .unset, .unset, .unset, .unset, .unset, .unset, .unset, .unset, .unset] [(.int v36), (.int (3 : Int32)), (.ref b15)])) rfl rfl (hb hby at_41)
  have z40 : n0 ≤ h39.size := Nat.le_trans z34 (Keep.of_wr W39).1
  have N41 := Fr.snoc X39 N35 g_b15
  have S43 : ∀ t, Steps p.tables e below (T39.setTop (mkF m 51 #[.val (.long l1), .second, .val (.int w1), .val (.int n1), .val (.int a1), .val (.int t1), .val (.ref b15), .unset, .unset, .unset, .unset, .unset, .unset, .unset, .unset, .unset] [(.int ((((l1.toUInt64 >>> ((32 : Int32) &&& 0x3f).toInt64.toUInt64).toInt64).toInt32).toInt8.toInt32)), (.int (4 : Int32)), (.ref b15)])) t → Steps p.tables e below (T39.setTop (mkF m 42 #[.val (.long l1), .second, .val (.int w1), .val (.int n1), .val (.int a1), .val (.int t1), .val (.ref b15), .unset, .unset, .unset, .unset, .unset, .unset, .unset, .unset, .unset] [])) t := by
    intro t kt
    show Steps p.tables e below (T39.setTop (mkF m 42 #[.val (.long l1), .second, .val (.int w1), .val (.int n1), .val (.int a1), .val (.int t1), .val (.ref b15), .unset, .unset, .unset, .unset, .unset, .unset, .unset, .unset, .unset] [])) _
    refine XS.aload X39.here hx rfl (hb hby at_42) rfl rfl ?_
    show Steps p.tables e below (T39.setTop (mkF m 44 #[.val (.long l1), .second, .val (.int w1), .val (.int n1), .val (.int a1), .val (.int t1), .val (.ref b15), .unset, .unset, .unset, .unset, .unset, .unset, .unset, .unset, .unset] [(.ref b15)])) _
    refine XS.iconst X39.here hx rfl (hb hby at_44) ?_
    show Steps p.tables e below (T39.setTop (mkF m 45 #[.val (.long l1), .second, .val (.int w1), .val (.int n1), .val (.int a1), .val (.int t1), .val (.ref b15), .unset, .unset, .unset, .unset, .unset, .unset, .unset, .unset, .unset] [(.int (4 : Int32)), (.ref b15)])) _
    refine XS.lloadN X39.here hx rfl (hb hby at_45) rfl ?_
    show Steps p.tables e below (T39.setTop (mkF m 46 #[.val (.long l1), .second, .val (.int w1), .val (.int n1), .val (.int a1), .val (.int t1), .val (.ref b15), .unset, .unset, .unset, .unset, .unset, .unset, .unset, .unset, .unset] [(.long l1), (.int (4 : Int32)), (.ref b15)])) _
    refine XS.bipush X39.here hx rfl (hb hby at_46) ?_
    show Steps p.tables e below (T39.setTop (mkF m 48 #[.val (.long l1), .second, .val (.int w1), .val (.int n1), .val (.int a1), .val (.int t1), .val (.ref b15), .unset, .unset, .unset, .unset, .unset, .unset, .unset, .unset, .unset] [(.int (32 : Int32)), (.long l1), (.int (4 : Int32)), (.ref b15)])) _
    refine XS.lushr X39.here hx rfl (hb hby at_48) rfl ?_
    show Steps p.tables e below (T39.setTop (mkF m 49 #[.val (.long l1), .second, .val (.int w1), .val (.int n1), .val (.int a1), .val (.int t1), .val (.ref b15), .unset, .unset, .unset, .unset, .unset, .unset, .unset, .unset, .unset] [(.long ((l1.toUInt64 >>> ((32 : Int32) &&& 0x3f).toInt64.toUInt64).toInt64)), (.int (4 : Int32)), (.ref b15)])) _
    refine XS.l2i X39.here hx rfl (hb hby at_49) rfl ?_
    show Steps p.tables e below (T39.setTop (mkF m 50 #[.val (.long l1), .second, .val (.int w1), .val (.int n1), .val (.int a1), .val (.int t1), .val (.ref b15), .unset, .unset, .unset, .unset, .unset, .unset, .unset, .unset, .unset] [(.int (((l1.toUInt64 >>> ((32 : Int32) &&& 0x3f).toInt64.toUInt64).toInt64).toInt32)), (.int (4 : Int32)), (.ref b15)])) _
    refine XS.i2b X39.here hx rfl (hb hby at_50) rfl ?_
    exact kt
  obtain ⟨v42, hv42⟩ : ∃ z : Int32, z = ((((l1.toUInt64 >>> ((32 : Int32) &&& 0x3f).toInt64.toUInt64).toInt64).toInt32).toInt8.toInt32) := ⟨_, rfl⟩
  have S44 : ∀ t, Steps p.tables e below (T39.setTop (mkF m 51 #[.val (.long l1), .second, .val (.int w1), .val (.int n1), .val (.int a1), .val (.int t1), .val (.ref b15), .unset, .unset, .unset, .unset, .unset, .unset, .unset, .unset, .unset] [(.int v42), (.int (4 : Int32)), (.ref b15)])) t → Steps p.tables e below (T39.setTop (mkF m 51 #[.val (.long l1), .second, .val (.int w1), .val (.int n1), .val (.int a1), .val (.int t1), .val (.ref b15), .unset, .unset, .unset, .unset, .unset, .unset, .unset, .unset, .unset] [(.int ((((l1.toUInt64 >>> ((32 : Int32) &&& 0x3f).toInt64.toUInt64).toInt64).toInt32).toInt8.toInt32)), (.int (4 : Int32)), (.ref b15)])) t := fun t k => by rw [hv42.symm]; exact k
  have nbv42 : nar .byte v42 = v42 := by rw [hv42]; exact own_narb _
  obtain ⟨T45, h45, X45, e45, W45, V45, st45⟩ := ArF.stB X39 hx hZ e39 V39 (i := 4) (by decide) (by decide) (g := (mkF m 51 #[.val (.long l1), .second, .val (.int w1), .val (.int n1), .val (.int a1), .val (.int t1), .val (.ref b15), .unset, .unset, .unset, .unset, .unset, .unset, .unset, .unset, .unset] [(.int v42), (.int (4 : Int32)), (.ref b15)])) rfl rfl (hb hby at_51)
  have z46 : n0 ≤ h45.size := Nat.le_trans z40 (Keep.of_wr W45).1
  have N47 := Fr.snoc X45 N41 g_b15
  have V45' := V45.congr (f' := (fun q => (.int (own_l5 v18 v24 v30 v36 v42 q)))) (fun i hi => by rcases (show i = 0 ∨ i = 1 ∨ i = 2 ∨ i = 3 ∨ i = 4 by omega) with rfl | rfl | rfl | rfl | rfl <;> simp [own_l5, nbv18, nbv24, nbv30, nbv36, nbv42])
  have S49 : ∀ t, Steps p.tables e below (T45.setTop (mkF m 58 #[.val (.long l1), .second, .val (.int w1), .val (.int n1), .val (.int a1), .val (.int t1), .val (.ref b15), .unset, .unset, .unset, .unset, .unset, .unset, .unset, .unset, .unset] [(.int ((n1 &&& (7 : Int32)) % (5 : Int32)))])) t → Steps p.tables e below (T45.setTop (mkF m 52 #[.val (.long l1), .second, .val (.int w1), .val (.int n1), .val (.int a1), .val (.int t1), .val (.ref b15), .unset, .unset, .unset, .unset, .unset, .unset, .unset, .unset, .unset] [])) t := by
    intro t kt
    show Steps p.tables e below (T45.setTop (mkF m 52 #[.val (.long l1), .second, .val (.int w1), .val (.int n1), .val (.int a1), .val (.int t1), .val (.ref b15), .unset, .unset, .unset, .unset, .unset, .unset, .unset, .unset, .unset] [])) _
    refine XS.iloadN X45.here hx rfl (hb hby at_52) rfl ?_
    show Steps p.tables e below (T45.setTop (mkF m 53 #[.val (.long l1), .second, .val (.int w1), .val (.int n1), .val (.int a1), .val (.int t1), .val (.ref b15), .unset, .unset, .unset, .unset, .unset, .unset, .unset, .unset, .unset] [(.int n1)])) _
    refine XS.bipush X45.here hx rfl (hb hby at_53) ?_
    show Steps p.tables e below (T45.setTop (mkF m 55 #[.val (.long l1), .second, .val (.int w1), .val (.int n1), .val (.int a1), .val (.int t1), .val (.ref b15), .unset, .unset, .unset, .unset, .unset, .unset, .unset, .unset, .unset] [(.int (7 : Int32)), (.int n1)])) _
    refine XS.iand X45.here hx rfl (hb hby at_55) rfl ?_
    show Steps p.tables e below (T45.setTop (mkF m 56 #[.val (.long l1), .second, .val (.int w1), .val (.int n1), .val (.int a1), .val (.int t1), .val (.ref b15), .unset, .unset, .unset, .unset, .unset, .unset, .unset, .unset, .unset] [(.int (n1 &&& (7 : Int32)))])) _
    refine XS.iconst X45.here hx rfl (hb hby at_56) ?_
    show Steps p.tables e below (T45.setTop (mkF m 57 #[.val (.long l1), .second, .val (.int w1), .val (.int n1), .val (.int a1), .val (.int t1), .val (.ref b15), .unset, .unset, .unset, .unset, .unset, .unset, .unset, .unset, .unset] [(.int (5 : Int32)), (.int (n1 &&& (7 : Int32)))])) _
    refine iremM X45 hx rfl (hb hby at_57) rfl (by decide) ?_
    exact kt
  obtain ⟨v48, hv48⟩ : ∃ z : Int32, z = ((n1 &&& (7 : Int32)) % (5 : Int32)) := ⟨_, rfl⟩
  have S50 : ∀ t, Steps p.tables e below (T45.setTop (mkF m 58 #[.val (.long l1), .second, .val (.int w1), .val (.int n1), .val (.int a1), .val (.int t1), .val (.ref b15), .unset, .unset, .unset, .unset, .unset, .unset, .unset, .unset, .unset] [(.int v48)])) t → Steps p.tables e below (T45.setTop (mkF m 58 #[.val (.long l1), .second, .val (.int w1), .val (.int n1), .val (.int a1), .val (.int t1), .val (.ref b15), .unset, .unset, .unset, .unset, .unset, .unset, .unset, .unset, .unset] [(.int ((n1 &&& (7 : Int32)) % (5 : Int32)))])) t := fun t k => by rw [hv48.symm]; exact k
  have S52 : ∀ t, Steps p.tables e below (T45.setTop (mkF m 62 #[.val (.long l1), .second, .val (.int w1), .val (.int n1), .val (.int a1), .val (.int t1), .val (.ref b15), .val (.int v48), .unset, .unset, .unset, .unset, .unset, .unset, .unset, .unset] [(.int (w1.toInt8.toInt32))])) t → Steps p.tables e below (T45.setTop (mkF m 58 #[.val (.long l1), .second, .val (.int w1), .val (.int n1), .val (.int a1), .val (.int t1), .val (.ref b15), .unset, .unset, .unset, .unset, .unset, .unset, .unset, .unset, .unset] [(.int v48)])) t := by
    intro t kt
    show Steps p.tables e below (T45.setTop (mkF m 58 #[.val (.long l1), .second, .val (.int w1), .val (.int n1), .val (.int a1), .val (.int t1), .val (.ref b15), .unset, .unset, .unset, .unset, .unset, .unset, .unset, .unset, .unset] [(.int v48)])) _
    refine XS.istore X45.here hx rfl (hb hby at_58) rfl (l' := #[.val (.long l1), .second, .val (.int w1), .val (.int n1), .val (.int a1), .val (.int t1), .val (.ref b15), .val (.int v48), .unset, .unset, .unset, .unset, .unset, .unset, .unset, .unset]) rfl ?_
    show Steps p.tables e below (T45.setTop (mkF m 60 #[.val (.long l1), .second, .val (.int w1), .val (.int n1), .val (.int a1), .val (.int t1), .val (.ref b15), .val (.int v48), .unset, .unset, .unset, .unset, .unset, .unset, .unset, .unset] [])) _
    refine XS.iloadN X45.here hx rfl (hb hby at_60) rfl ?_
    show Steps p.tables e below (T45.setTop (mkF m 61 #[.val (.long l1), .second, .val (.int w1), .val (.int n1), .val (.int a1), .val (.int t1), .val (.ref b15), .val (.int v48), .unset, .unset, .unset, .unset, .unset, .unset, .unset, .unset] [(.int w1)])) _
    refine XS.i2b X45.here hx rfl (hb hby at_61) rfl ?_
    exact kt
  obtain ⟨v51, hv51⟩ : ∃ z : Int32, z = (w1.toInt8.toInt32) := ⟨_, rfl⟩
  have S53 : ∀ t, Steps p.tables e below (T45.setTop (mkF m 62 #[.val (.long l1), .second, .val (.int w1), .val (.int n1), .val (.int a1), .val (.int t1), .val (.ref b15), .val (.int v48), .unset, .unset, .unset, .unset, .unset, .unset, .unset, .unset] [(.int v51)])) t → Steps p.tables e below (T45.setTop (mkF m 62 #[.val (.long l1), .second, .val (.int w1), .val (.int n1), .val (.int a1), .val (.int t1), .val (.ref b15), .val (.int v48), .unset, .unset, .unset, .unset, .unset, .unset, .unset, .unset] [(.int (w1.toInt8.toInt32))])) t := fun t k => by rw [hv51.symm]; exact k
  have nbv51 : nar .byte v51 = v51 := by rw [hv51]; exact own_narb _
  have S55 : ∀ t, Steps p.tables e below (T45.setTop (mkF m 69 #[.val (.long l1), .second, .val (.int w1), .val (.int n1), .val (.int a1), .val (.int t1), .val (.ref b15), .val (.int v48), .val (.int v51), .unset, .unset, .unset, .unset, .unset, .unset, .unset] [(.int (((w1.toUInt32 >>> ((8 : Int32) &&& 31).toUInt32).toInt32).toInt8.toInt32))])) t → Steps p.tables e below (T45.setTop (mkF m 62 #[.val (.long l1), .second, .val (.int w1), .val (.int n1), .val (.int a1), .val (.int t1), .val (.ref b15), .val (.int v48), .unset, .unset, .unset, .unset, .unset, .unset, .unset, .unset] [(.int v51)])) t := by
    intro t kt
    show Steps p.tables e below (T45.setTop (mkF m 62 #[.val (.long l1), .second, .val (.int w1), .val (.int n1), .val (.int a1), .val (.int t1), .val (.ref b15), .val (.int v48), .unset, .unset, .unset, .unset, .unset, .unset, .unset, .unset] [(.int v51)])) _
    refine XS.istore X45.here hx rfl (hb hby at_62) rfl (l' := #[.val (.long l1), .second, .val (.int w1), .val (.int n1), .val (.int a1), .val (.int t1), .val (.ref b15), .val (.int v48), .val (.int v51), .unset, .unset, .unset, .unset, .unset, .unset, .unset]) rfl ?_
    show Steps p.tables e below (T45.setTop (mkF m 64 #[.val (.long l1), .second, .val (.int w1), .val (.int n1), .val (.int a1), .val (.int t1), .val (.ref b15), .val (.int v48), .val (.int v51), .unset, .unset, .unset, .unset, .unset, .unset, .unset] [])) _
    refine XS.iloadN X45.here hx rfl (hb hby at_64) rfl ?_
    show Steps p.tables e below (T45.setTop (mkF m 65 #[.val (.long l1), .second, .val (.int w1), .val (.int n1), .val (.int a1), .val (.int t1), .val (.ref b15), .val (.int v48), .val (.int v51), .unset, .unset, .unset, .unset, .unset, .unset, .unset] [(.int w1)])) _
    refine XS.bipush X45.here hx rfl (hb hby at_65) ?_
    show Steps p.tables e below (T45.setTop (mkF m 67 #[.val (.long l1), .second, .val (.int w1), .val (.int n1), .val (.int a1), .val (.int t1), .val (.ref b15), .val (.int v48), .val (.int v51), .unset, .unset, .unset, .unset, .unset, .unset, .unset] [(.int (8 : Int32)), (.int w1)])) _
    refine XS.iushr X45.here hx rfl (hb hby at_67) rfl ?_
    show Steps p.tables e below (T45.setTop (mkF m 68 #[.val (.long l1), .second, .val (.int w1), .val (.int n1), .val (.int a1), .val (.int t1), .val (.ref b15), .val (.int v48), .val (.int v51), .unset, .unset, .unset, .unset, .unset, .unset, .unset] [(.int ((w1.toUInt32 >>> ((8 : Int32) &&& 31).toUInt32).toInt32))])) _
    refine XS.i2b X45.here hx rfl (hb hby at_68) rfl ?_
    exact kt
  obtain ⟨v54, hv54⟩ : ∃ z : Int32, z = (((w1.toUInt32 >>> ((8 : Int32) &&& 31).toUInt32).toInt32).toInt8.toInt32) := ⟨_, rfl⟩
  have S56 : ∀ t, Steps p.tables e below (T45.setTop (mkF m 69 #[.val (.long l1), .second, .val (.int w1), .val (.int n1), .val (.int a1), .val (.int t1), .val (.ref b15), .val (.int v48), .val (.int v51), .unset, .unset, .unset, .unset, .unset, .unset, .unset] [(.int v54)])) t → Steps p.tables e below (T45.setTop (mkF m 69 #[.val (.long l1), .second, .val (.int w1), .val (.int n1), .val (.int a1), .val (.int t1), .val (.ref b15), .val (.int v48), .val (.int v51), .unset, .unset, .unset, .unset, .unset, .unset, .unset] [(.int (((w1.toUInt32 >>> ((8 : Int32) &&& 31).toUInt32).toInt32).toInt8.toInt32))])) t := fun t k => by rw [hv54.symm]; exact k
  have nbv54 : nar .byte v54 = v54 := by rw [hv54]; exact own_narb _
  have S58 : ∀ t, Steps p.tables e below (T45.setTop (mkF m 76 #[.val (.long l1), .second, .val (.int w1), .val (.int n1), .val (.int a1), .val (.int t1), .val (.ref b15), .val (.int v48), .val (.int v51), .val (.int v54), .unset, .unset, .unset, .unset, .unset, .unset] [(.int (((w1.toUInt32 >>> ((16 : Int32) &&& 31).toUInt32).toInt32).toInt8.toInt32))])) t → Steps p.tables e below (T45.setTop (mkF m 69 #[.val (.long l1), .second, .val (.int w1), .val (.int n1), .val (.int a1), .val (.int t1), .val (.ref b15), .val (.int v48), .val (.int v51), .unset, .unset, .unset, .unset, .unset, .unset, .unset] [(.int v54)])) t := by
    intro t kt
    show Steps p.tables e below (T45.setTop (mkF m 69 #[.val (.long l1), .second, .val (.int w1), .val (.int n1), .val (.int a1), .val (.int t1), .val (.ref b15), .val (.int v48), .val (.int v51), .unset, .unset, .unset, .unset, .unset, .unset, .unset] [(.int v54)])) _
    refine XS.istore X45.here hx rfl (hb hby at_69) rfl (l' := #[.val (.long l1), .second, .val (.int w1), .val (.int n1), .val (.int a1), .val (.int t1), .val (.ref b15), .val (.int v48), .val (.int v51), .val (.int v54), .unset, .unset, .unset, .unset, .unset, .unset]) rfl ?_
    show Steps p.tables e below (T45.setTop (mkF m 71 #[.val (.long l1), .second, .val (.int w1), .val (.int n1), .val (.int a1), .val (.int t1), .val (.ref b15), .val (.int v48), .val (.int v51), .val (.int v54), .unset, .unset, .unset, .unset, .unset, .unset] [])) _
    refine XS.iloadN X45.here hx rfl (hb hby at_71) rfl ?_
    show Steps p.tables e below (T45.setTop (mkF m 72 #[.val (.long l1), .second, .val (.int w1), .val (.int n1), .val (.int a1), .val (.int t1), .val (.ref b15), .val (.int v48), .val (.int v51), .val (.int v54), .unset, .unset, .unset, .unset, .unset, .unset] [(.int w1)])) _
    refine XS.bipush X45.here hx rfl (hb hby at_72) ?_
    show Steps p.tables e below (T45.setTop (mkF m 74 #[.val (.long l1), .second, .val (.int w1), .val (.int n1), .val (.int a1), .val (.int t1), .val (.ref b15), .val (.int v48), .val (.int v51), .val (.int v54), .unset, .unset, .unset, .unset, .unset, .unset] [(.int (16 : Int32)), (.int w1)])) _
    refine XS.iushr X45.here hx rfl (hb hby at_74) rfl ?_
    show Steps p.tables e below (T45.setTop (mkF m 75 #[.val (.long l1), .second, .val (.int w1), .val (.int n1), .val (.int a1), .val (.int t1), .val (.ref b15), .val (.int v48), .val (.int v51), .val (.int v54), .unset, .unset, .unset, .unset, .unset, .unset] [(.int ((w1.toUInt32 >>> ((16 : Int32) &&& 31).toUInt32).toInt32))])) _
    refine XS.i2b X45.here hx rfl (hb hby at_75) rfl ?_
    exact kt
  obtain ⟨v57, hv57⟩ : ∃ z : Int32, z = (((w1.toUInt32 >>> ((16 : Int32) &&& 31).toUInt32).toInt32).toInt8.toInt32) := ⟨_, rfl⟩
  have S59 : ∀ t, Steps p.tables e below (T45.setTop (mkF m 76 #[.val (.long l1), .second, .val (.int w1), .val (.int n1), .val (.int a1), .val (.int t1), .val (.ref b15), .val (.int v48), .val (.int v51), .val (.int v54), .unset, .unset, .unset, .unset, .unset, .unset] [(.int v57)])) t → Steps p.tables e below (T45.setTop (mkF m 76 #[.val (.long l1), .second, .val (.int w1), .val (.int n1), .val (.int a1), .val (.int t1), .val (.ref b15), .val (.int v48), .val (.int v51), .val (.int v54), .unset, .unset, .unset, .unset, .unset, .unset] [(.int (((w1.toUInt32 >>> ((16 : Int32) &&& 31).toUInt32).toInt32).toInt8.toInt32))])) t := fun t k => by rw [hv57.symm]; exact k
  have nbv57 : nar .byte v57 = v57 := by rw [hv57]; exact own_narb _
  have S61 : ∀ t, Steps p.tables e below (T45.setTop (mkF m 83 #[.val (.long l1), .second, .val (.int w1), .val (.int n1), .val (.int a1), .val (.int t1), .val (.ref b15), .val (.int v48), .val (.int v51), .val (.int v54), .val (.int v57), .unset, .unset, .unset, .unset, .unset] [(.int (((w1.toUInt32 >>> ((24 : Int32) &&& 31).toUInt32).toInt32).toInt8.toInt32))])) t → Steps p.tables e below (T45.setTop (mkF m 76 #[.val (.long l1), .second, .val (.int w1), .val (.int n1), .val (.int a1), .val (.int t1), .val (.ref b15), .val (.int v48), .val (.int v51), .val (.int v54), .unset, .unset, .unset, .unset, .unset, .unset] [(.int v57)])) t := by
    intro t kt
    show Steps p.tables e below (T45.setTop (mkF m 76 #[.val (.long l1), .second, .val (.int w1), .val (.int n1), .val (.int a1), .val (.int t1), .val (.ref b15), .val (.int v48), .val (.int v51), .val (.int v54), .unset, .unset, .unset, .unset, .unset, .unset] [(.int v57)])) _
    refine XS.istore X45.here hx rfl (hb hby at_76) rfl (l' := #[.val (.long l1), .second, .val (.int w1), .val (.int n1), .val (.int a1), .val (.int t1), .val (.ref b15), .val (.int v48), .val (.int v51), .val (.int v54), .val (.int v57), .unset, .unset, .unset, .unset, .unset]) rfl ?_
    show Steps p.tables e below (T45.setTop (mkF m 78 #[.val (.long l1), .second, .val (.int w1), .val (.int n1), .val (.int a1), .val (.int t1), .val (.ref b15), .val (.int v48), .val (.int v51), .val (.int v54), .val (.int v57), .unset, .unset, .unset, .unset, .unset] [])) _
    refine XS.iloadN X45.here hx rfl (hb hby at_78) rfl ?_
    show Steps p.tables e below (T45.setTop (mkF m 79 #[.val (.long l1), .second, .val (.int w1), .val (.int n1), .val (.int a1), .val (.int t1), .val (.ref b15), .val (.int v48), .val (.int v51), .val (.int v54), .val (.int v57), .unset, .unset, .unset, .unset, .unset] [(.int w1)])) _
    refine XS.bipush X45.here hx rfl (hb hby at_79) ?_
    show Steps p.tables e below (T45.setTop (mkF m 81 #[.val (.long l1), .second, .val (.int w1), .val (.int n1), .val (.int a1), .val (.int t1), .val (.ref b15), .val (.int v48), .val (.int v51), .val (.int v54), .val (.int v57), .unset, .unset, .unset, .unset, .unset] [(.int (24 : Int32)), (.int w1)])) _
    refine XS.iushr X45.here hx rfl (hb hby at_81) rfl ?_
    show Steps p.tables e below (T45.setTop (mkF m 82 #[.val (.long l1), .second, .val (.int w1), .val (.int n1), .val (.int a1), .val (.int t1), .val (.ref b15), .val (.int v48), .val (.int v51), .val (.int v54), .val (.int v57), .unset, .unset, .unset, .unset, .unset] [(.int ((w1.toUInt32 >>> ((24 : Int32) &&& 31).toUInt32).toInt32))])) _
    refine XS.i2b X45.here hx rfl (hb hby at_82) rfl ?_
    exact kt
  obtain ⟨v60, hv60⟩ : ∃ z : Int32, z = (((w1.toUInt32 >>> ((24 : Int32) &&& 31).toUInt32).toInt32).toInt8.toInt32) := ⟨_, rfl⟩
  have S62 : ∀ t, Steps p.tables e below (T45.setTop (mkF m 83 #[.val (.long l1), .second, .val (.int w1), .val (.int n1), .val (.int a1), .val (.int t1), .val (.ref b15), .val (.int v48), .val (.int v51), .val (.int v54), .val (.int v57), .unset, .unset, .unset, .unset, .unset] [(.int v60)])) t → Steps p.tables e below (T45.setTop (mkF m 83 #[.val (.long l1), .second, .val (.int w1), .val (.int n1), .val (.int a1), .val (.int t1), .val (.ref b15), .val (.int v48), .val (.int v51), .val (.int v54), .val (.int v57), .unset, .unset, .unset, .unset, .unset] [(.int (((w1.toUInt32 >>> ((24 : Int32) &&& 31).toUInt32).toInt32).toInt8.toInt32))])) t := fun t k => by rw [hv60.symm]; exact k
  have nbv60 : nar .byte v60 = v60 := by rw [hv60]; exact own_narb _
  have S63 : ∀ t, Steps p.tables e below (T45.setTop (mkF m 85 #[.val (.long l1), .second, .val (.int w1), .val (.int n1), .val (.int a1), .val (.int t1), .val (.ref b15), .val (.int v48), .val (.int v51), .val (.int v54), .val (.int v57), .val (.int v60), .unset, .unset, .unset, .unset] [])) t → Steps p.tables e below (T45.setTop (mkF m 83 #[.val (.long l1), .second, .val (.int w1), .val (.int n1), .val (.int a1), .val (.int t1), .val (.ref b15), .val (.int v48), .val (.int v51), .val (.int v54), .val (.int v57), .unset, .unset, .unset, .unset, .unset] [(.int v60)])) t := by
    intro t kt
    show Steps p.tables e below (T45.setTop (mkF m 83 #[.val (.long l1), .second, .val (.int w1), .val (.int n1), .val (.int a1), .val (.int t1), .val (.ref b15), .val (.int v48), .val (.int v51), .val (.int v54), .val (.int v57), .unset, .unset, .unset, .unset, .unset] [(.int v60)])) _
    refine XS.istore X45.here hx rfl (hb hby at_83) rfl (l' := #[.val (.long l1), .second, .val (.int w1), .val (.int n1), .val (.int a1), .val (.int t1), .val (.ref b15), .val (.int v48), .val (.int v51), .val (.int v54), .val (.int v57), .val (.int v60), .unset, .unset, .unset, .unset]) rfl ?_
    exact kt
  have C64 : ∀ t, Steps p.tables e below (T45.setTop (mkF m 85 #[.val (.long l1), .second, .val (.int w1), .val (.int n1), .val (.int a1), .val (.int t1), .val (.ref b15), .val (.int v48), .val (.int v51), .val (.int v54), .val (.int v57), .val (.int v60), .unset, .unset, .unset, .unset] [])) t → Steps p.tables e below (s₁.setTop (mkF m 0 #[.val (.long l1), .second, .val (.int w1), .val (.int n1), .val (.int a1), .val (.int t1), .unset, .unset, .unset, .unset, .unset, .unset, .unset, .unset, .unset, .unset] [])) t := (fun t k => (S14 t (st15 t (S19 t (S20 t (st21 t (S25 t (S26 t (st27 t (S31 t (S32 t (st33 t (S37 t (S38 t (st39 t (S43 t (S44 t (st45 t (S49 t (S50 t (S52 t (S53 t (S55 t (S56 t (S58 t (S59 t (S61 t (S62 t (S63 t k)))))))))))))))))))))))))))))
  rcases own_wl _ _ hv48 with qv48 | qv48 | qv48 | qv48 | qv48
  · have S65 : ∀ t, Steps p.tables e below (T45.setTop (mkF m 85 #[.val (.long l1), .second, .val (.int w1), .val (.int n1), .val (.int a1), .val (.int t1), .val (.ref b15), .val (.int (0 : Int32)), .val (.int v51), .val (.int v54), .val (.int v57), .val (.int v60), .unset, .unset, .unset, .unset] [])) t → Steps p.tables e below (T45.setTop (mkF m 85 #[.val (.long l1), .second, .val (.int w1), .val (.int n1), .val (.int a1), .val (.int t1), .val (.ref b15), .val (.int v48), .val (.int v51), .val (.int v54), .val (.int v57), .val (.int v60), .unset, .unset, .unset, .unset] [])) t := fun t k => by rw [qv48]; exact k
    have S66 : ∀ t, Steps p.tables e below (T45.setTop (mkF m 87 #[.val (.long l1), .second, .val (.int w1), .val (.int n1), .val (.int a1), .val (.int t1), .val (.ref b15), .val (.int (0 : Int32)), .val (.int v51), .val (.int v54), .val (.int v57), .val (.int v60), .unset, .unset, .unset, .unset] [(.int (0 : Int32))])) t → Steps p.tables e below (T45.setTop (mkF m 85 #[.val (.long l1), .second, .val (.int w1), .val (.int n1), .val (.int a1), .val (.int t1), .val (.ref b15), .val (.int (0 : Int32)), .val (.int v51), .val (.int v54), .val (.int v57), .val (.int v60), .unset, .unset, .unset, .unset] [])) t := by
      intro t kt
      show Steps p.tables e below (T45.setTop (mkF m 85 #[.val (.long l1), .second, .val (.int w1), .val (.int n1), .val (.int a1), .val (.int t1), .val (.ref b15), .val (.int (0 : Int32)), .val (.int v51), .val (.int v54), .val (.int v57), .val (.int v60), .unset, .unset, .unset, .unset] [])) _
      refine XS.iload X45.here hx rfl (hb hby at_85) rfl ?_
      exact kt
    obtain ⟨T67, h67, k67, X67, e67, E67, A67, st67⟩ := newP X45 hx hZ (hw _ (List.mem_of_getElem? (i := 0) rfl)) e45 (g := (mkF m 87 #[.val (.long l1), .second, .val (.int w1), .val (.int n1), .val (.int a1), .val (.int t1), .val (.ref b15), .val (.int (0 : Int32)), .val (.int v51), .val (.int v54), .val (.int v57), .val (.int v60), .unset, .unset, .unset, .unset] [(.int (0 : Int32))])) rfl (hb hby at_87) rfl (by decide) (cap := 0) (by decide) (by decide) (by decide) (by decide)
    obtain ⟨b67, g67⟩ : ∃ z, z = h45.size := ⟨_, rfl⟩
    rw [← g67] at A67 st67
    have g_b67 : n0 ≤ b67 := Nat.le_trans z46 (Nat.le_of_eq g67.symm)
    have K68 := ((((((K16.ext E15).wr W21 (Or.inr sz_b15)).wr W27 (Or.inr sz_b15)).wr W33 (Or.inr sz_b15)).wr W39 (Or.inr sz_b15)).wr W45 (Or.inr sz_b15))
    have sz_b67 : h0.size ≤ b67 := Nat.le_trans K68.1 (Nat.le_of_eq g67.symm)
    have ne_b15_b67 : b15 ≠ b67 := Nat.ne_of_lt (Nat.lt_of_lt_of_le V45'.lt (Nat.le_of_eq g67.symm))
    have z69 : n0 ≤ h67.size := Nat.le_trans z46 E67.1
    have V67 : ArF Z h67 b67 .byte 0 (fun _ => (.int (0 : Int32))) := ArF.new A67 (by decide) rfl
    have S71 : ∀ t, Steps p.tables e below (T67.setTop (mkF m 146 #[.val (.long l1), .second, .val (.int w1), .val (.int n1), .val (.int a1), .val (.int t1), .val (.ref b15), .val (.int (0 : Int32)), .val (.int v51), .val (.int v54), .val (.int v57), .val (.int v60), .val (.ref b67), .unset, .unset, .unset] [(.int ((a1 &&& (7 : Int32)) % (6 : Int32)))])) t → Steps p.tables e below (T67.setTop (mkF m 89 #[.val (.long l1), .second, .val (.int w1), .val (.int n1), .val (.int a1), .val (.int t1), .val (.ref b15), .val (.int (0 : Int32)), .val (.int v51), .val (.int v54), .val (.int v57), .val (.int v60), .unset, .unset, .unset, .unset] [(.ref b67)])) t := by
      intro t kt
      show Steps p.tables e below (T67.setTop (mkF m 89 #[.val (.long l1), .second, .val (.int w1), .val (.int n1), .val (.int a1), .val (.int t1), .val (.ref b15), .val (.int (0 : Int32)), .val (.int v51), .val (.int v54), .val (.int v57), .val (.int v60), .unset, .unset, .unset, .unset] [(.ref b67)])) _
      refine XS.astore X67.here hx rfl (hb hby at_89) rfl rfl (l' := #[.val (.long l1), .second, .val (.int w1), .val (.int n1), .val (.int a1), .val (.int t1), .val (.ref b15), .val (.int (0 : Int32)), .val (.int v51), .val (.int v54), .val (.int v57), .val (.int v60), .val (.ref b67), .unset, .unset, .unset]) rfl ?_
      show Steps p.tables e below (T67.setTop (mkF m 91 #[.val (.long l1), .second, .val (.int w1), .val (.int n1), .val (.int a1), .val (.int t1), .val (.ref b15), .val (.int (0 : Int32)), .val (.int v51), .val (.int v54), .val (.int v57), .val (.int v60), .val (.ref b67), .unset, .unset, .unset] [])) _
      refine XS.iload X67.here hx rfl (hb hby at_91) rfl ?_
      show Steps p.tables e below (T67.setTop (mkF m 93 #[.val (.long l1), .second, .val (.int w1), .val (.int n1), .val (.int a1), .val (.int t1), .val (.ref b15), .val (.int (0 : Int32)), .val (.int v51), .val (.int v54), .val (.int v57), .val (.int v60), .val (.ref b67), .unset, .unset, .unset] [(.int (0 : Int32))])) _
      refine XS.ifYes X67.here hx rfl (pc0 := 93) (pc' := 102) rfl (hb hby at_93) rfl ((if0 _ _).trans (flt (by decide)).2.2.2) (by decide) (by decide) ?_
      show Steps p.tables e below (T67.setTop (mkF m 102 #[.val (.long l1), .second, .val (.int w1), .val (.int n1), .val (.int a1), .val (.int t1), .val (.ref b15), .val (.int (0 : Int32)), .val (.int v51), .val (.int v54), .val (.int v57), .val (.int v60), .val (.ref b67), .unset, .unset, .unset] [])) _
      refine XS.iload X67.here hx rfl (hb hby at_102) rfl ?_
      show Steps p.tables e below (T67.setTop (mkF m 104 #[.val (.long l1), .second, .val (.int w1), .val (.int n1), .val (.int a1), .val (.int t1), .val (.ref b15), .val (.int (0 : Int32)), .val (.int v51), .val (.int v54), .val (.int v57), .val (.int v60), .val (.ref b67), .unset, .unset, .unset] [(.int (0 : Int32))])) _
      refine XS.iconst X67.here hx rfl (hb hby at_104) ?_
      show Steps p.tables e below (T67.setTop (mkF m 105 #[.val (.long l1), .second, .val (.int w1), .val (.int n1), .val (.int a1), .val (.int t1), .val (.ref b15), .val (.int (0 : Int32)), .val (.int v51), .val (.int v54), .val (.int v57), .val (.int v60), .val (.ref b67), .unset, .unset, .unset] [(.int (1 : Int32)), (.int (0 : Int32))])) _
      refine XS.icmpYes X67.here hx rfl (pc0 := 105) (pc' := 114) rfl (hb hby at_105) rfl (flt (by decide)).2.2.2 (by decide) (by decide) ?_
      show Steps p.tables e below (T67.setTop (mkF m 114 #[.val (.long l1), .second, .val (.int w1), .val (.int n1), .val (.int a1), .val (.int t1), .val (.ref b15), .val (.int (0 : Int32)), .val (.int v51), .val (.int v54), .val (.int v57), .val (.int v60), .val (.ref b67), .unset, .unset, .unset] [])) _
      refine XS.iload X67.here hx rfl (hb hby at_114) rfl ?_
      show Steps p.tables e below (T67.setTop (mkF m 116 #[.val (.long l1), .second, .val (.int w1), .val (.int n1), .val (.int a1), .val (.int t1), .val (.ref b15), .val (.int (0 : Int32)), .val (.int v51), .val (.int v54), .val (.int v57), .val (.int v60), .val (.ref b67), .unset, .unset, .unset] [(.int (0 : Int32))])) _
      refine XS.iconst X67.here hx rfl (hb hby at_116) ?_
      show Steps p.tables e below (T67.setTop (mkF m 117 #[.val (.long l1), .second, .val (.int w1), .val (.int n1), .val (.int a1), .val (.int t1), .val (.ref b15), .val (.int (0 : Int32)), .val (.int v51), .val (.int v54), .val (.int v57), .val (.int v60), .val (.ref b67), .unset, .unset, .unset] [(.int (2 : Int32)), (.int (0 : Int32))])) _
      refine XS.icmpYes X67.here hx rfl (pc0 := 117) (pc' := 126) rfl (hb hby at_117) rfl (flt (by decide)).2.2.2 (by decide) (by decide) ?_
      show Steps p.tables e below (T67.setTop (mkF m 126 #[.val (.long l1), .second, .val (.int w1), .val (.int n1), .val (.int a1), .val (.int t1), .val (.ref b15), .val (.int (0 : Int32)), .val (.int v51), .val (.int v54), .val (.int v57), .val (.int v60), .val (.ref b67), .unset, .unset, .unset] [])) _
      refine XS.iload X67.here hx rfl (hb hby at_126) rfl ?_
      show Steps p.tables e below (T67.setTop (mkF m 128 #[.val (.long l1), .second, .val (.int w1), .val (.int n1), .val (.int a1), .val (.int t1), .val (.ref b15), .val (.int (0 : Int32)), .val (.int v51), .val (.int v54), .val (.int v57), .val (.int v60), .val (.ref b67), .unset, .unset, .unset] [(.int (0 : Int32))])) _
      refine XS.iconst X67.here hx rfl (hb hby at_128) ?_
      show Steps p.tables e below (T67.setTop (mkF m 129 #[.val (.long l1), .second, .val (.int w1), .val (.int n1), .val (.int a1), .val (.int t1), .val (.ref b15), .val (.int (0 : Int32)), .val (.int v51), .val (.int v54), .val (.int v57), .val (.int v60), .val (.ref b67), .unset, .unset, .unset] [(.int (3 : Int32)), (.int (0 : Int32))])) _
      refine XS.icmpYes X67.here hx rfl (pc0 := 129) (pc' := 138) rfl (hb hby at_129) rfl (flt (by decide)).2.2.2 (by decide) (by decide) ?_
      show Steps p.tables e below (T67.setTop (mkF m 138 #[.val (.long l1), .second, .val (.int w1), .val (.int n1), .val (.int a1), .val (.int t1), .val (.ref b15), .val (.int (0 : Int32)), .val (.int v51), .val (.int v54), .val (.int v57), .val (.int v60), .val (.ref b67), .unset, .unset, .unset] [])) _
      refine XS.iload X67.here hx rfl (hb hby at_138) rfl ?_
      show Steps p.tables e below (T67.setTop (mkF m 140 #[.val (.long l1), .second, .val (.int w1), .val (.int n1), .val (.int a1), .val (.int t1), .val (.ref b15), .val (.int (0 : Int32)), .val (.int v51), .val (.int v54), .val (.int v57), .val (.int v60), .val (.ref b67), .unset, .unset, .unset] [(.int a1)])) _
      refine XS.bipush X67.here hx rfl (hb hby at_140) ?_
      show Steps p.tables e below (T67.setTop (mkF m 142 #[.val (.long l1), .second, .val (.int w1), .val (.int n1), .val (.int a1), .val (.int t1), .val (.ref b15), .val (.int (0 : Int32)), .val (.int v51), .val (.int v54), .val (.int v57), .val (.int v60), .val (.ref b67), .unset, .unset, .unset] [(.int (7 : Int32)), (.int a1)])) _
      refine XS.iand X67.here hx rfl (hb hby at_142) rfl ?_
      show Steps p.tables e below (T67.setTop (mkF m 143 #[.val (.long l1), .second, .val (.int w1), .val (.int n1), .val (.int a1), .val (.int t1), .val (.ref b15), .val (.int (0 : Int32)), .val (.int v51), .val (.int v54), .val (.int v57), .val (.int v60), .val (.ref b67), .unset, .unset, .unset] [(.int (a1 &&& (7 : Int32)))])) _
      refine XS.bipush X67.here hx rfl (hb hby at_143) ?_
      show Steps p.tables e below (T67.setTop (mkF m 145 #[.val (.long l1), .second, .val (.int w1), .val (.int n1), .val (.int a1), .val (.int t1), .val (.ref b15), .val (.int (0 : Int32)), .val (.int v51), .val (.int v54), .val (.int v57), .val (.int v60), .val (.ref b67), .unset, .unset, .unset] [(.int (6 : Int32)), (.int (a1 &&& (7 : Int32)))])) _
      refine iremM X67 hx rfl (hb hby at_145) rfl (by decide) ?_
      exact kt
    obtain ⟨v70, hv70⟩ : ∃ z : Int32, z = ((a1 &&& (7 : Int32)) % (6 : Int32)) := ⟨_, rfl⟩
    have S72 : ∀ t, Steps p.tables e below (T67.setTop (mkF m 146 #[.val (.long l1), .second, .val (.int w1), .val (.int n1), .val (.int a1), .val (.int t1), .val (.ref b15), .val (.int (0 : Int32)), .val (.int v51), .val (.int v54), .val (.int v57), .val (.int v60), .val (.ref b67), .unset, .unset, .unset] [(.int v70)])) t → Steps p.tables e below (T67.setTop (mkF m 146 #[.val (.long l1), .second, .val (.int w1), .val (.int n1), .val (.int a1), .val (.int t1), .val (.ref b15), .val (.int (0 : Int32)), .val (.int v51), .val (.int v54), .val (.int v57), .val (.int v60), .val (.ref b67), .unset, .unset, .unset] [(.int ((a1 &&& (7 : Int32)) % (6 : Int32)))])) t := fun t k => by rw [hv70.symm]; exact k
    obtain ⟨an, hat, han⟩ := own_at_in _ _ hv70
    have S74 : ∀ t, Steps p.tables e below (T67.setTop (mkF m 162 #[.val (.long l1), .second, .val (.int w1), .val (.int n1), .val (.int a1), .val (.int t1), .val (.ref b15), .val (.int (0 : Int32)), .val (.int v51), .val (.int v54), .val (.int v57), .val (.int v60), .val (.ref b67), .val (.int v70), .unset, .unset] [(.int (v70 + ((t1 &&& (2147483647 : Int32)) % ((6 : Int32) - v70))))])) t → Steps p.tables e below (T67.setTop (mkF m 146 #[.val (.long l1), .second, .val (.int w1), .val (.int n1), .val (.int a1), .val (.int t1), .val (.ref b15), .val (.int (0 : Int32)), .val (.int v51), .val (.int v54), .val (.int v57), .val (.int v60), .val (.ref b67), .unset, .unset, .unset] [(.int v70)])) t := by
      intro t kt
      show Steps p.tables e below (T67.setTop (mkF m 146 #[.val (.long l1), .second, .val (.int w1), .val (.int n1), .val (.int a1), .val (.int t1), .val (.ref b15), .val (.int (0 : Int32)), .val (.int v51), .val (.int v54), .val (.int v57), .val (.int v60), .val (.ref b67), .unset, .unset, .unset] [(.int v70)])) _
      refine XS.istore X67.here hx rfl (hb hby at_146) rfl (l' := #[.val (.long l1), .second, .val (.int w1), .val (.int n1), .val (.int a1), .val (.int t1), .val (.ref b15), .val (.int (0 : Int32)), .val (.int v51), .val (.int v54), .val (.int v57), .val (.int v60), .val (.ref b67), .val (.int v70), .unset, .unset]) rfl ?_
      show Steps p.tables e below (T67.setTop (mkF m 148 #[.val (.long l1), .second, .val (.int w1), .val (.int n1), .val (.int a1), .val (.int t1), .val (.ref b15), .val (.int (0 : Int32)), .val (.int v51), .val (.int v54), .val (.int v57), .val (.int v60), .val (.ref b67), .val (.int v70), .unset, .unset] [])) _
      refine XS.iload X67.here hx rfl (hb hby at_148) rfl ?_
      show Steps p.tables e below (T67.setTop (mkF m 150 #[.val (.long l1), .second, .val (.int w1), .val (.int n1), .val (.int a1), .val (.int t1), .val (.ref b15), .val (.int (0 : Int32)), .val (.int v51), .val (.int v54), .val (.int v57), .val (.int v60), .val (.ref b67), .val (.int v70), .unset, .unset] [(.int v70)])) _
      refine XS.iload X67.here hx rfl (hb hby at_150) rfl ?_
      show Steps p.tables e below (T67.setTop (mkF m 152 #[.val (.long l1), .second, .val (.int w1), .val (.int n1), .val (.int a1), .val (.int t1), .val (.ref b15), .val (.int (0 : Int32)), .val (.int v51), .val (.int v54), .val (.int v57), .val (.int v60), .val (.ref b67), .val (.int v70), .unset, .unset] [(.int t1), (.int v70)])) _
      refine X67.ldcInt hx hown (mvT hZ (hw _ (List.mem_of_getElem? (i := 1) rfl))) (g := (mkF m 152 #[.val (.long l1), .second, .val (.int w1), .val (.int n1), .val (.int a1), .val (.int t1), .val (.ref b15), .val (.int (0 : Int32)), .val (.int v51), .val (.int v54), .val (.int v57), .val (.int v60), .val (.ref b67), .val (.int v70), .unset, .unset] [(.int t1), (.int v70)])) rfl (hb hby at_152) _ ?_
      show Steps p.tables e below (T67.setTop (mkF m 154 #[.val (.long l1), .second, .val (.int w1), .val (.int n1), .val (.int a1), .val (.int t1), .val (.ref b15), .val (.int (0 : Int32)), .val (.int v51), .val (.int v54), .val (.int v57), .val (.int v60), .val (.ref b67), .val (.int v70), .unset, .unset] [(.int (2147483647 : Int32)), (.int t1), (.int v70)])) _
      refine XS.iand X67.here hx rfl (hb hby at_154) rfl ?_
      show Steps p.tables e below (T67.setTop (mkF m 155 #[.val (.long l1), .second, .val (.int w1), .val (.int n1), .val (.int a1), .val (.int t1), .val (.ref b15), .val (.int (0 : Int32)), .val (.int v51), .val (.int v54), .val (.int v57), .val (.int v60), .val (.ref b67), .val (.int v70), .unset, .unset] [(.int (t1 &&& (2147483647 : Int32))), (.int v70)])) _
      refine XS.bipush X67.here hx rfl (hb hby at_155) ?_
      show Steps p.tables e below (T67.setTop (mkF m 157 #[.val (.long l1), .second, .val (.int w1), .val (.int n1), .val (.int a1), .val (.int t1), .val (.ref b15), .val (.int (0 : Int32)), .val (.int v51), .val (.int v54), .val (.int v57), .val (.int v60), .val (.ref b67), .val (.int v70), .unset, .unset] [(.int (6 : Int32)), (.int (t1 &&& (2147483647 : Int32))), (.int v70)])) _
      refine XS.iload X67.here hx rfl (hb hby at_157) rfl ?_
      show Steps p.tables e below (T67.setTop (mkF m 159 #[.val (.long l1), .second, .val (.int w1), .val (.int n1), .val (.int a1), .val (.int t1), .val (.ref b15), .val (.int (0 : Int32)), .val (.int v51), .val (.int v54), .val (.int v57), .val (.int v60), .val (.ref b67), .val (.int v70), .unset, .unset] [(.int v70), (.int (6 : Int32)), (.int (t1 &&& (2147483647 : Int32))), (.int v70)])) _
      refine XS.isub X67.here hx rfl (hb hby at_159) rfl ?_
      show Steps p.tables e below (T67.setTop (mkF m 160 #[.val (.long l1), .second, .val (.int w1), .val (.int n1), .val (.int a1), .val (.int t1), .val (.ref b15), .val (.int (0 : Int32)), .val (.int v51), .val (.int v54), .val (.int v57), .val (.int v60), .val (.ref b67), .val (.int v70), .unset, .unset] [(.int ((6 : Int32) - v70)), (.int (t1 &&& (2147483647 : Int32))), (.int v70)])) _
      refine iremM X67 hx rfl (hb hby at_160) rfl (own_six_ne hat han) ?_
      show Steps p.tables e below (T67.setTop (mkF m 161 #[.val (.long l1), .second, .val (.int w1), .val (.int n1), .val (.int a1), .val (.int t1), .val (.ref b15), .val (.int (0 : Int32)), .val (.int v51), .val (.int v54), .val (.int v57), .val (.int v60), .val (.ref b67), .val (.int v70), .unset, .unset] [(.int ((t1 &&& (2147483647 : Int32)) % ((6 : Int32) - v70))), (.int v70)])) _
      refine XS.iadd X67.here hx rfl (hb hby at_161) rfl ?_
      exact kt
    obtain ⟨v73, hv73⟩ : ∃ z : Int32, z = (v70 + ((t1 &&& (2147483647 : Int32)) % ((6 : Int32) - v70))) := ⟨_, rfl⟩
    have S75 : ∀ t, Steps p.tables e below (T67.setTop (mkF m 162 #[.val (.long l1), .second, .val (.int w1), .val (.int n1), .val (.int a1), .val (.int t1), .val (.ref b15), .val (.int (0 : Int32)), .val (.int v51), .val (.int v54), .val (.int v57), .val (.int v60), .val (.ref b67), .val (.int v70), .unset, .unset] [(.int v73)])) t → Steps p.tables e below (T67.setTop (mkF m 162 #[.val (.long l1), .second, .val (.int w1), .val (.int n1), .val (.int a1), .val (.int t1), .val (.ref b15), .val (.int (0 : Int32)), .val (.int v51), .val (.int v54), .val (.int v57), .val (.int v60), .val (.ref b67), .val (.int v70), .unset, .unset] [(.int (v70 + ((t1 &&& (2147483647 : Int32)) % ((6 : Int32) - v70))))])) t := fun t k => by rw [hv73.symm]; exact k
    obtain ⟨tn, hto, hle, htn, hdd⟩ := own_to_in _ _ _ hat han hv73
    have f76 := (V45'.ext E67)
    have S77 : ∀ t, Steps p.tables e below (T67.setTop (mkF m 171 #[.val (.long l1), .second, .val (.int w1), .val (.int n1), .val (.int a1), .val (.int t1), .val (.ref b15), .val (.int (0 : Int32)), .val (.int v51), .val (.int v54), .val (.int v57), .val (.int v60), .val (.ref b67), .val (.int v70), .val (.int v73), .unset] [(.int (v73 - v70)), (.int (0 : Int32))])) t → Steps p.tables e below (T67.setTop (mkF m 162 #[.val (.long l1), .second, .val (.int w1), .val (.int n1), .val (.int a1), .val (.int t1), .val (.ref b15), .val (.int (0 : Int32)), .val (.int v51), .val (.int v54), .val (.int v57), .val (.int v60), .val (.ref b67), .val (.int v70), .unset, .unset] [(.int v73)])) t := by
      intro t kt
      show Steps p.tables e below (T67.setTop (mkF m 162 #[.val (.long l1), .second, .val (.int w1), .val (.int n1), .val (.int a1), .val (.int t1), .val (.ref b15), .val (.int (0 : Int32)), .val (.int v51), .val (.int v54), .val (.int v57), .val (.int v60), .val (.ref b67), .val (.int v70), .unset, .unset] [(.int v73)])) _
      refine XS.istore X67.here hx rfl (hb hby at_162) rfl (l' := #[.val (.long l1), .second, .val (.int w1), .val (.int n1), .val (.int a1), .val (.int t1), .val (.ref b15), .val (.int (0 : Int32)), .val (.int v51), .val (.int v54), .val (.int v57), .val (.int v60), .val (.ref b67), .val (.int v70), .val (.int v73), .unset]) rfl ?_
      show Steps p.tables e below (T67.setTop (mkF m 164 #[.val (.long l1), .second, .val (.int w1), .val (.int n1), .val (.int a1), .val (.int t1), .val (.ref b15), .val (.int (0 : Int32)), .val (.int v51), .val (.int v54), .val (.int v57), .val (.int v60), .val (.ref b67), .val (.int v70), .val (.int v73), .unset] [])) _
      refine XS.iload X67.here hx rfl (hb hby at_164) rfl ?_
      show Steps p.tables e below (T67.setTop (mkF m 166 #[.val (.long l1), .second, .val (.int w1), .val (.int n1), .val (.int a1), .val (.int t1), .val (.ref b15), .val (.int (0 : Int32)), .val (.int v51), .val (.int v54), .val (.int v57), .val (.int v60), .val (.ref b67), .val (.int v70), .val (.int v73), .unset] [(.int (0 : Int32))])) _
      refine XS.iload X67.here hx rfl (hb hby at_166) rfl ?_
      show Steps p.tables e below (T67.setTop (mkF m 168 #[.val (.long l1), .second, .val (.int w1), .val (.int n1), .val (.int a1), .val (.int t1), .val (.ref b15), .val (.int (0 : Int32)), .val (.int v51), .val (.int v54), .val (.int v57), .val (.int v60), .val (.ref b67), .val (.int v70), .val (.int v73), .unset] [(.int v73), (.int (0 : Int32))])) _
      refine XS.iload X67.here hx rfl (hb hby at_168) rfl ?_
      show Steps p.tables e below (T67.setTop (mkF m 170 #[.val (.long l1), .second, .val (.int w1), .val (.int n1), .val (.int a1), .val (.int t1), .val (.ref b15), .val (.int (0 : Int32)), .val (.int v51), .val (.int v54), .val (.int v57), .val (.int v60), .val (.ref b67), .val (.int v70), .val (.int v73), .unset] [(.int v70), (.int v73), (.int (0 : Int32))])) _
      refine XS.isub X67.here hx rfl (hb hby at_170) rfl ?_
      exact kt
    obtain ⟨v80, hv80⟩ : ∃ z : Int32, z = (if (v73 - v70) < (0 : Int32) then (0 : Int32) else (1 : Int32)) := ⟨_, rfl⟩
    have S79 : ∀ t, Steps p.tables e below (T67.setTop (mkF m 249 #[.val (.long l1), .second, .val (.int w1), .val (.int n1), .val (.int a1), .val (.int t1), .val (.ref b15), .val (.int (0 : Int32)), .val (.int v51), .val (.int v54), .val (.int v57), .val (.int v60), .val (.ref b67), .val (.int v70), .val (.int v73), .unset] [(.int v80)])) t → Steps p.tables e below (T67.setTop (mkF m 171 #[.val (.long l1), .second, .val (.int w1), .val (.int n1), .val (.int a1), .val (.int t1), .val (.ref b15), .val (.int (0 : Int32)), .val (.int v51), .val (.int v54), .val (.int v57), .val (.int v60), .val (.ref b67), .val (.int v70), .val (.int v73), .unset] [(.int (v73 - v70)), (.int (0 : Int32))])) t := by
      intro t kt
      subst hv80
      by_cases hc78 : (v73 - v70) < (0 : Int32)
      · simp only [if_pos hc78] at kt
        show Steps p.tables e below (T67.setTop (mkF m 171 #[.val (.long l1), .second, .val (.int w1), .val (.int n1), .val (.int a1), .val (.int t1), .val (.ref b15), .val (.int (0 : Int32)), .val (.int v51), .val (.int v54), .val (.int v57), .val (.int v60), .val (.ref b67), .val (.int v70), .val (.int v73), .unset] [(.int (v73 - v70)), (.int (0 : Int32))])) _
        refine XS.icmpYes X67.here hx rfl (pc0 := 171) (pc' := 248) rfl (hb hby at_171) rfl (tlt hc78).2.2.1 (by decide) (by decide) ?_
        show Steps p.tables e below (T67.setTop (mkF m 248 #[.val (.long l1), .second, .val (.int w1), .val (.int n1), .val (.int a1), .val (.int t1), .val (.ref b15), .val (.int (0 : Int32)), .val (.int v51), .val (.int v54), .val (.int v57), .val (.int v60), .val (.ref b67), .val (.int v70), .val (.int v73), .unset] [])) _
        refine XS.iconst X67.here hx rfl (hb hby at_248) ?_
        exact kt
      · simp only [if_neg hc78] at kt
        show Steps p.tables e below (T67.setTop (mkF m 171 #[.val (.long l1), .second, .val (.int w1), .val (.int n1), .val (.int a1), .val (.int t1), .val (.ref b15), .val (.int (0 : Int32)), .val (.int v51), .val (.int v54), .val (.int v57), .val (.int v60), .val (.ref b67), .val (.int v70), .val (.int v73), .unset] [(.int (v73 - v70)), (.int (0 : Int32))])) _
        refine XS.icmpNo X67.here hx rfl (hb hby at_171) rfl (flt hc78).2.2.1 ?_
        show Steps p.tables e below (T67.setTop (mkF m 174 #[.val (.long l1), .second, .val (.int w1), .val (.int n1), .val (.int a1), .val (.int t1), .val (.ref b15), .val (.int (0 : Int32)), .val (.int v51), .val (.int v54), .val (.int v57), .val (.int v60), .val (.ref b67), .val (.int v70), .val (.int v73), .unset] [])) _
        refine XS.iload X67.here hx rfl (hb hby at_174) rfl ?_
        show Steps p.tables e below (T67.setTop (mkF m 176 #[.val (.long l1), .second, .val (.int w1), .val (.int n1), .val (.int a1), .val (.int t1), .val (.ref b15), .val (.int (0 : Int32)), .val (.int v51), .val (.int v54), .val (.int v57), .val (.int v60), .val (.ref b67), .val (.int v70), .val (.int v73), .unset] [(.int (0 : Int32))])) _
        refine XS.iconst X67.here hx rfl (hb hby at_176) ?_
        show Steps p.tables e below (T67.setTop (mkF m 177 #[.val (.long l1), .second, .val (.int w1), .val (.int n1), .val (.int a1), .val (.int t1), .val (.ref b15), .val (.int (0 : Int32)), .val (.int v51), .val (.int v54), .val (.int v57), .val (.int v60), .val (.ref b67), .val (.int v70), .val (.int v73), .unset] [(.int (1 : Int32)), (.int (0 : Int32))])) _
        refine XS.icmpYes X67.here hx rfl (pc0 := 177) (pc' := 190) rfl (hb hby at_177) rfl (tlt (by decide)).1 (by decide) (by decide) ?_
        show Steps p.tables e below (T67.setTop (mkF m 190 #[.val (.long l1), .second, .val (.int w1), .val (.int n1), .val (.int a1), .val (.int t1), .val (.ref b15), .val (.int (0 : Int32)), .val (.int v51), .val (.int v54), .val (.int v57), .val (.int v60), .val (.ref b67), .val (.int v70), .val (.int v73), .unset] [])) _
        refine XS.iload X67.here hx rfl (hb hby at_190) rfl ?_
        show Steps p.tables e below (T67.setTop (mkF m 192 #[.val (.long l1), .second, .val (.int w1), .val (.int n1), .val (.int a1), .val (.int t1), .val (.ref b15), .val (.int (0 : Int32)), .val (.int v51), .val (.int v54), .val (.int v57), .val (.int v60), .val (.ref b67), .val (.int v70), .val (.int v73), .unset] [(.int (0 : Int32))])) _
        refine XS.iconst X67.here hx rfl (hb hby at_192) ?_
        show Steps p.tables e below (T67.setTop (mkF m 193 #[.val (.long l1), .second, .val (.int w1), .val (.int n1), .val (.int a1), .val (.int t1), .val (.ref b15), .val (.int (0 : Int32)), .val (.int v51), .val (.int v54), .val (.int v57), .val (.int v60), .val (.ref b67), .val (.int v70), .val (.int v73), .unset] [(.int (2 : Int32)), (.int (0 : Int32))])) _
        refine XS.icmpYes X67.here hx rfl (pc0 := 193) (pc' := 208) rfl (hb hby at_193) rfl (tlt (by decide)).1 (by decide) (by decide) ?_
        show Steps p.tables e below (T67.setTop (mkF m 208 #[.val (.long l1), .second, .val (.int w1), .val (.int n1), .val (.int a1), .val (.int t1), .val (.ref b15), .val (.int (0 : Int32)), .val (.int v51), .val (.int v54), .val (.int v57), .val (.int v60), .val (.ref b67), .val (.int v70), .val (.int v73), .unset] [])) _
        refine XS.iload X67.here hx rfl (hb hby at_208) rfl ?_
        show Steps p.tables e below (T67.setTop (mkF m 210 #[.val (.long l1), .second, .val (.int w1), .val (.int n1), .val (.int a1), .val (.int t1), .val (.ref b15), .val (.int (0 : Int32)), .val (.int v51), .val (.int v54), .val (.int v57), .val (.int v60), .val (.ref b67), .val (.int v70), .val (.int v73), .unset] [(.int (0 : Int32))])) _
        refine XS.iconst X67.here hx rfl (hb hby at_210) ?_
        show Steps p.tables e below (T67.setTop (mkF m 211 #[.val (.long l1), .second, .val (.int w1), .val (.int n1), .val (.int a1), .val (.int t1), .val (.ref b15), .val (.int (0 : Int32)), .val (.int v51), .val (.int v54), .val (.int v57), .val (.int v60), .val (.ref b67), .val (.int v70), .val (.int v73), .unset] [(.int (3 : Int32)), (.int (0 : Int32))])) _
        refine XS.icmpYes X67.here hx rfl (pc0 := 211) (pc' := 226) rfl (hb hby at_211) rfl (tlt (by decide)).1 (by decide) (by decide) ?_
        show Steps p.tables e below (T67.setTop (mkF m 226 #[.val (.long l1), .second, .val (.int w1), .val (.int n1), .val (.int a1), .val (.int t1), .val (.ref b15), .val (.int (0 : Int32)), .val (.int v51), .val (.int v54), .val (.int v57), .val (.int v60), .val (.ref b67), .val (.int v70), .val (.int v73), .unset] [])) _
        refine XS.iload X67.here hx rfl (hb hby at_226) rfl ?_
        show Steps p.tables e below (T67.setTop (mkF m 228 #[.val (.long l1), .second, .val (.int w1), .val (.int n1), .val (.int a1), .val (.int t1), .val (.ref b15), .val (.int (0 : Int32)), .val (.int v51), .val (.int v54), .val (.int v57), .val (.int v60), .val (.ref b67), .val (.int v70), .val (.int v73), .unset] [(.int (0 : Int32))])) _
        refine XS.iconst X67.here hx rfl (hb hby at_228) ?_
        show Steps p.tables e below (T67.setTop (mkF m 229 #[.val (.long l1), .second, .val (.int w1), .val (.int n1), .val (.int a1), .val (.int t1), .val (.ref b15), .val (.int (0 : Int32)), .val (.int v51), .val (.int v54), .val (.int v57), .val (.int v60), .val (.ref b67), .val (.int v70), .val (.int v73), .unset] [(.int (4 : Int32)), (.int (0 : Int32))])) _
        refine XS.icmpYes X67.here hx rfl (pc0 := 229) (pc' := 244) rfl (hb hby at_229) rfl (tlt (by decide)).1 (by decide) (by decide) ?_
        show Steps p.tables e below (T67.setTop (mkF m 244 #[.val (.long l1), .second, .val (.int w1), .val (.int n1), .val (.int a1), .val (.int t1), .val (.ref b15), .val (.int (0 : Int32)), .val (.int v51), .val (.int v54), .val (.int v57), .val (.int v60), .val (.ref b67), .val (.int v70), .val (.int v73), .unset] [])) _
        refine XS.iconst X67.here hx rfl (hb hby at_244) ?_
        show Steps p.tables e below (T67.setTop (mkF m 245 #[.val (.long l1), .second, .val (.int w1), .val (.int n1), .val (.int a1), .val (.int t1), .val (.ref b15), .val (.int (0 : Int32)), .val (.int v51), .val (.int v54), .val (.int v57), .val (.int v60), .val (.ref b67), .val (.int v70), .val (.int v73), .unset] [(.int (1 : Int32))])) _
        refine XS.goto X67.here hx rfl (pc0 := 245) (pc' := 249) rfl (hb hby at_245) (by decide) (by decide) ?_
        exact kt
    have hva : ArF Z h67 b67 .byte 0 (fun q => (.int ((own_l4 v51 v54 v57 v60) q))) := V67.congr (fun i hi => by omega)
    have S81 : ∀ t, Steps p.tables e below (T67.setTop (mkF m 259 #[.val (.long l1), .second, .val (.int w1), .val (.int n1), .val (.int a1), .val (.int t1), .val (.ref b15), .val (.int (0 : Int32)), .val (.int v51), .val (.int v54), .val (.int v57), .val (.int v60), .val (.ref b67), .val (.int v70), .val (.int v73), .val (.int v80)] [(.ref b67), (.int v73), (.int v70), (.ref b15)])) t → Steps p.tables e below (T67.setTop (mkF m 249 #[.val (.long l1), .second, .val (.int w1), .val (.int n1), .val (.int a1), .val (.int t1), .val (.ref b15), .val (.int (0 : Int32)), .val (.int v51), .val (.int v54), .val (.int v57), .val (.int v60), .val (.ref b67), .val (.int v70), .val (.int v73), .unset] [(.int v80)])) t := by
      intro t kt
      show Steps p.tables e below (T67.setTop (mkF m 249 #[.val (.long l1), .second, .val (.int w1), .val (.int n1), .val (.int a1), .val (.int t1), .val (.ref b15), .val (.int (0 : Int32)), .val (.int v51), .val (.int v54), .val (.int v57), .val (.int v60), .val (.ref b67), .val (.int v70), .val (.int v73), .unset] [(.int v80)])) _
      refine XS.istore X67.here hx rfl (hb hby at_249) rfl (l' := #[.val (.long l1), .second, .val (.int w1), .val (.int n1), .val (.int a1), .val (.int t1), .val (.ref b15), .val (.int (0 : Int32)), .val (.int v51), .val (.int v54), .val (.int v57), .val (.int v60), .val (.ref b67), .val (.int v70), .val (.int v73), .val (.int v80)]) rfl ?_
      show Steps p.tables e below (T67.setTop (mkF m 251 #[.val (.long l1), .second, .val (.int w1), .val (.int n1), .val (.int a1), .val (.int t1), .val (.ref b15), .val (.int (0 : Int32)), .val (.int v51), .val (.int v54), .val (.int v57), .val (.int v60), .val (.ref b67), .val (.int v70), .val (.int v73), .val (.int v80)] [])) _
      refine XS.aload X67.here hx rfl (hb hby at_251) rfl rfl ?_
      show Steps p.tables e below (T67.setTop (mkF m 253 #[.val (.long l1), .second, .val (.int w1), .val (.int n1), .val (.int a1), .val (.int t1), .val (.ref b15), .val (.int (0 : Int32)), .val (.int v51), .val (.int v54), .val (.int v57), .val (.int v60), .val (.ref b67), .val (.int v70), .val (.int v73), .val (.int v80)] [(.ref b15)])) _
      refine XS.iload X67.here hx rfl (hb hby at_253) rfl ?_
      show Steps p.tables e below (T67.setTop (mkF m 255 #[.val (.long l1), .second, .val (.int w1), .val (.int n1), .val (.int a1), .val (.int t1), .val (.ref b15), .val (.int (0 : Int32)), .val (.int v51), .val (.int v54), .val (.int v57), .val (.int v60), .val (.ref b67), .val (.int v70), .val (.int v73), .val (.int v80)] [(.int v70), (.ref b15)])) _
      refine XS.iload X67.here hx rfl (hb hby at_255) rfl ?_
      show Steps p.tables e below (T67.setTop (mkF m 257 #[.val (.long l1), .second, .val (.int w1), .val (.int n1), .val (.int a1), .val (.int t1), .val (.ref b15), .val (.int (0 : Int32)), .val (.int v51), .val (.int v54), .val (.int v57), .val (.int v60), .val (.ref b67), .val (.int v70), .val (.int v73), .val (.int v80)] [(.int v73), (.int v70), (.ref b15)])) _
      refine XS.aload X67.here hx rfl (hb hby at_257) rfl rfl ?_
      exact kt
    obtain ⟨_, _, ⟨T82, L82, k82, n82⟩, -, X82, ⟨Lc82, hQ82, l82, y82, z82⟩, st82⟩ := Jvm.LawKit.callS X67 hx (y := (⟨"com/example/joinery/joinery/Bytes", "startsWith", "([BII[B)Z"⟩ : MethodName)) hown (mvT hZ (hw _ (List.mem_of_getElem? (i := 2) rfl))) (mvT hZ (hw _ (List.mem_of_getElem? (i := 3) rfl))) (mvT hZ (hw _ (List.mem_of_getElem? (i := 4) rfl))) (mvT hZ (hw _ (List.mem_of_getElem? (i := 5) rfl))) (by decide) (backOf (W := 0) (rm1 l Z a0 hw [] b15 v70 v73 b67 an tn 0 (own_l5 v18 v24 v30 v36 v42) (own_l4 v51 v54 v57 v60) h67 n0 z69 f76 hva hat hdd htn (by decide)) hZ (hw _ (List.mem_of_getElem? (i := 5) rfl)) (hw _ (List.mem_of_getElem? (i := 4) rfl)) (by decide) (by decide)) (g := (mkF m 259 #[.val (.long l1), .second, .val (.int w1), .val (.int n1), .val (.int a1), .val (.int t1), .val (.ref b15), .val (.int (0 : Int32)), .val (.int v51), .val (.int v54), .val (.int v57), .val (.int v60), .val (.ref b67), .val (.int v70), .val (.int v73), .val (.int v80)] [(.ref b67), (.int v73), (.int v70), (.ref b15)])) rfl (by rw [hml]; rfl) (argsL := [(.ref b15), (.int v70), (.int v73), (.ref b67)]) (rest := []) (lenOf pd_0 rfl) rfl (by show 2 * 0 + _ ≤ _; exact Nat.le_of_eq rfl) (hb hby at_259) (fun _ _ => ⟨rfl, e67, (by decide : 2 + 0 ≤ _), (by decide : 5 + 0 ≤ _)⟩)
    dsimp only [Pt.U, Pt.locs, Pt.cells, Pt.slots] at X82 l82 y82 z82 st82 hQ82
    subst l82 y82 z82
    obtain ⟨rfl, N82q, e82⟩ := hQ82
    have N82 := Fr.app N47 N82q
    have S83 : ∀ t, Steps p.tables e below (T82.setTop (mkF m 272 #[.val (.long l1), .second, .val (.int w1), .val (.int n1), .val (.int a1), .val (.int t1), .val (.ref b15), .val (.int (0 : Int32)), .val (.int v51), .val (.int v54), .val (.int v57), .val (.int v60), .val (.ref b67), .val (.int v70), .val (.int v73), .val (.int v80)] [(.int (1 : Int32))])) t → Steps p.tables e below (T82.setTop (mkF m 262 #[.val (.long l1), .second, .val (.int w1), .val (.int n1), .val (.int a1), .val (.int t1), .val (.ref b15), .val (.int (0 : Int32)), .val (.int v51), .val (.int v54), .val (.int v57), .val (.int v60), .val (.ref b67), .val (.int v70), .val (.int v73), .val (.int v80)] [(.int (own_sw (own_l5 v18 v24 v30 v36 v42) (own_l4 v51 v54 v57 v60) an (v73 - v70) 0))])) t := by
      intro t kt
      show Steps p.tables e below (T82.setTop (mkF m 262 #[.val (.long l1), .second, .val (.int w1), .val (.int n1), .val (.int a1), .val (.int t1), .val (.ref b15), .val (.int (0 : Int32)), .val (.int v51), .val (.int v54), .val (.int v57), .val (.int v60), .val (.ref b67), .val (.int v70), .val (.int v73), .val (.int v80)] [(.int (own_sw (own_l5 v18 v24 v30 v36 v42) (own_l4 v51 v54 v57 v60) an (v73 - v70) 0))])) _
      refine XS.iload X82.here hx rfl (hb hby at_262) rfl ?_
      show Steps p.tables e below (T82.setTop (mkF m 264 #[.val (.long l1), .second, .val (.int w1), .val (.int n1), .val (.int a1), .val (.int t1), .val (.ref b15), .val (.int (0 : Int32)), .val (.int v51), .val (.int v54), .val (.int v57), .val (.int v60), .val (.ref b67), .val (.int v70), .val (.int v73), .val (.int v80)] [(.int v80), (.int (own_sw (own_l5 v18 v24 v30 v36 v42) (own_l4 v51 v54 v57 v60) an (v73 - v70) 0))])) _
      refine XS.icmpNo X82.here hx rfl (hb hby at_264) rfl (teq (show (own_sw (own_l5 v18 v24 v30 v36 v42) (own_l4 v51 v54 v57 v60) an (v73 - v70) 0) = v80 from by rw [hv80]; rfl)).2 ?_
      show Steps p.tables e below (T82.setTop (mkF m 267 #[.val (.long l1), .second, .val (.int w1), .val (.int n1), .val (.int a1), .val (.int t1), .val (.ref b15), .val (.int (0 : Int32)), .val (.int v51), .val (.int v54), .val (.int v57), .val (.int v60), .val (.ref b67), .val (.int v70), .val (.int v73), .val (.int v80)] [])) _
      refine XS.iconst X82.here hx rfl (hb hby at_267) ?_
      show Steps p.tables e below (T82.setTop (mkF m 268 #[.val (.long l1), .second, .val (.int w1), .val (.int n1), .val (.int a1), .val (.int t1), .val (.ref b15), .val (.int (0 : Int32)), .val (.int v51), .val (.int v54), .val (.int v57), .val (.int v60), .val (.ref b67), .val (.int v70), .val (.int v73), .val (.int v80)] [(.int (1 : Int32))])) _
      refine XS.goto X82.here hx rfl (pc0 := 268) (pc' := 272) rfl (hb hby at_268) (by decide) (by decide) ?_
      exact kt
    have C84 : ∀ t, Steps p.tables e below (T82.setTop (mkF m 272 #[.val (.long l1), .second, .val (.int w1), .val (.int n1), .val (.int a1), .val (.int t1), .val (.ref b15), .val (.int (0 : Int32)), .val (.int v51), .val (.int v54), .val (.int v57), .val (.int v60), .val (.ref b67), .val (.int v70), .val (.int v73), .val (.int v80)] [(.int (1 : Int32))])) t → Steps p.tables e below (s₁.setTop (mkF m 0 #[.val (.long l1), .second, .val (.int w1), .val (.int n1), .val (.int a1), .val (.int t1), .unset, .unset, .unset, .unset, .unset, .unset, .unset, .unset, .unset, .unset] [])) t := (fun t k => (C64 t (S65 t (S66 t (st67 t (S71 t (S72 t (S74 t (S75 t (S77 t (S79 t (S81 t (st82 t (S83 t k))))))))))))))
    obtain ⟨fs, hr, hrun, hended, hW, hsame⟩ := X82.leave (v := some (.int (1 : Int32))) (fun h => by rw [Bd.returns] at h; cases h)
    refine ⟨_, _, pre0 _ (C84 _ ?_), hrun, hended, _, _, rfl, ?_, ⟨_, rfl⟩, hW, hsame.mono (by decide) (by decide)⟩
    · exact retN X82 hx (t := .boolean) Bd.returns (by simp) (hb hby at_272) hr
    · show Q_rm0 Z l1 w1 n1 a1 t1 h0 n0 _ T82.heap _
      rw [e82]
      exact ⟨rfl, N82⟩
  · have S85 : ∀ t, Steps p.tables e below (T45.setTop (mkF m 85 #[.val (.long l1), .second, .val (.int w1), .val (.int n1), .val (.int a1), .val (.int t1), .val (.ref b15), .val (.int (1 : Int32)), .val (.int v51), .val (.int v54), .val (.int v57), .val (.int v60), .unset, .unset, .unset, .unset] [])) t → Steps p.tables e below (T45.setTop (mkF m 85 #[.val (.long l1), .second, .val (.int w1), .val (.int n1), .val (.int a1), .val (.int t1), .val (.ref b15), .val (.int v48), .val (.int v51), .val (.int v54), .val (.int v57), .val (.int v60), .unset, .unset, .unset, .unset] [])) t := fun t k => by rw [qv48]; exact k
    have S86 : ∀ t, Steps p.tables e below (T45.setTop (mkF m 87 #[.val (.long l1), .second, .val (.int w1), .val (.int n1), .val (.int a1), .val (.int t1), .val (.ref b15), .val (.int (1 : Int32)), .val (.int v51), .val (.int v54), .val (.int v57), .val (.int v60), .unset, .unset, .unset, .unset] [(.int (1 : Int32))])) t → Steps p.tables e below (T45.setTop (mkF m 85 #[.val (.long l1), .second, .val (.int w1), .val (.int n1), .val (.int a1), .val (.int t1), .val (.ref b15), .val (.int (1 : Int32)), .val (.int v51), .val (.int v54), .val (.int v57), .val (.int v60), .unset, .unset, .unset, .unset] [])) t := by
      intro t kt
      show Steps p.tables e below (T45.setTop (mkF m 85 #[.val (.long l1), .second, .val (.int w1), .val (.int n1), .val (.int a1), .val (.int t1), .val (.ref b15), .val (.int (1 : Int32)), .val (.int v51), .val (.int v54), .val (.int v57), .val (.int v60), .unset, .unset, .unset, .unset] [])) _
      refine XS.iload X45.here hx rfl (hb hby at_85) rfl ?_
      exact kt
    obtain ⟨T87, h87, k87, X87, e87, E87, A87, st87⟩ := newP X45 hx hZ (hw _ (List.mem_of_getElem? (i := 0) rfl)) e45 (g := (mkF m 87 #[.val (.long l1), .second, .val (.int w1), .val (.int n1), .val (.int a1), .val (.int t1), .val (.ref b15), .val (.int (1 : Int32)), .val (.int v51), .val (.int v54), .val (.int v57), .val (.int v60), .unset, .unset, .unset, .unset] [(.int (1 : Int32))])) rfl (hb hby at_87) rfl (by decide) (cap := 1) (by decide) (by decide) (by decide) (by decide)
    obtain ⟨b87, g87⟩ : ∃ z, z = h45.size := ⟨_, rfl⟩
    rw [← g87] at A87 st87
    have g_b87 : n0 ≤ b87 := Nat.le_trans z46 (Nat.le_of_eq g87.symm)
    have K88 := ((((((K16.ext E15).wr W21 (Or.inr sz_b15)).wr W27 (Or.inr sz_b15)).wr W33 (Or.inr sz_b15)).wr W39 (Or.inr sz_b15)).wr W45 (Or.inr sz_b15))
    have sz_b87 : h0.size ≤ b87 := Nat.le_trans K88.1 (Nat.le_of_eq g87.symm)
    have ne_b15_b87 : b15 ≠ b87 := Nat.ne_of_lt (Nat.lt_of_lt_of_le V45'.lt (Nat.le_of_eq g87.symm))
    have z89 : n0 ≤ h87.size := Nat.le_trans z46 E87.1
    have V87 : ArF Z h87 b87 .byte 1 (fun _ => (.int (0 : Int32))) := ArF.new A87 (by decide) rfl
    have S90 : ∀ t, Steps p.tables e below (T87.setTop (mkF m 101 #[.val (.long l1), .second, .val (.int w1), .val (.int n1), .val (.int a1), .val (.int t1), .val (.ref b15), .val (.int (1 : Int32)), .val (.int v51), .val (.int v54), .val (.int v57), .val (.int v60), .val (.ref b87), .unset, .unset, .unset] [(.int v51), (.int (0 : Int32)), (.ref b87)])) t → Steps p.tables e below (T87.setTop (mkF m 89 #[.val (.long l1), .second, .val (.int w1), .val (.int n1), .val (.int a1), .val (.int t1), .val (.ref b15), .val (.int (1 : Int32)), .val (.int v51), .val (.int v54), .val (.int v57), .val (.int v60), .unset, .unset, .unset, .unset] [(.ref b87)])) t := by
      intro t kt
      show Steps p.tables e below (T87.setTop (mkF m 89 #[.val (.long l1), .second, .val (.int w1), .val (.int n1), .val (.int a1), .val (.int t1), .val (.ref b15), .val (.int (1 : Int32)), .val (.int v51), .val (.int v54), .val (.int v57), .val (.int v60), .unset, .unset, .unset, .unset] [(.ref b87)])) _
      refine XS.astore X87.here hx rfl (hb hby at_89) rfl rfl (l' := #[.val (.long l1), .second, .val (.int w1), .val (.int n1), .val (.int a1), .val (.int t1), .val (.ref b15), .val (.int (1 : Int32)), .val (.int v51), .val (.int v54), .val (.int v57), .val (.int v60), .val (.ref b87), .unset, .unset, .unset]) rfl ?_
      show Steps p.tables e below (T87.setTop (mkF m 91 #[.val (.long l1), .second, .val (.int w1), .val (.int n1), .val (.int a1), .val (.int t1), .val (.ref b15), .val (.int (1 : Int32)), .val (.int v51), .val (.int v54), .val (.int v57), .val (.int v60), .val (.ref b87), .unset, .unset, .unset] [])) _
      refine XS.iload X87.here hx rfl (hb hby at_91) rfl ?_
      show Steps p.tables e below (T87.setTop (mkF m 93 #[.val (.long l1), .second, .val (.int w1), .val (.int n1), .val (.int a1), .val (.int t1), .val (.ref b15), .val (.int (1 : Int32)), .val (.int v51), .val (.int v54), .val (.int v57), .val (.int v60), .val (.ref b87), .unset, .unset, .unset] [(.int (1 : Int32))])) _
      refine XS.ifNo X87.here hx rfl (hb hby at_93) rfl ((if0 _ _).trans (tlt (by decide)).2.2.2) ?_
      show Steps p.tables e below (T87.setTop (mkF m 96 #[.val (.long l1), .second, .val (.int w1), .val (.int n1), .val (.int a1), .val (.int t1), .val (.ref b15), .val (.int (1 : Int32)), .val (.int v51), .val (.int v54), .val (.int v57), .val (.int v60), .val (.ref b87), .unset, .unset, .unset] [])) _
      refine XS.aload X87.here hx rfl (hb hby at_96) rfl rfl ?_
      show Steps p.tables e below (T87.setTop (mkF m 98 #[.val (.long l1), .second, .val (.int w1), .val (.int n1), .val (.int a1), .val (.int t1), .val (.ref b15), .val (.int (1 : Int32)), .val (.int v51), .val (.int v54), .val (.int v57), .val (.int v60), .val (.ref b87), .unset, .unset, .unset] [(.ref b87)])) _
      refine XS.iconst X87.here hx rfl (hb hby at_98) ?_
      show Steps p.tables e below (T87.setTop (mkF m 99 #[.val (.long l1), .second, .val (.int w1), .val (.int n1), .val (.int a1), .val (.int t1), .val (.ref b15), .val (.int (1 : Int32)), .val (.int v51), .val (.int v54), .val (.int v57), .val (.int v60), .val (.ref b87), .unset, .unset, .unset] [(.int (0 : Int32)), (.ref b87)])) _
      refine XS.iload X87.here hx rfl (hb hby at_99) rfl ?_
      exact kt
    obtain ⟨T91, h91, X91, e91, W91, V91, st91⟩ := ArF.stB X87 hx hZ e87 V87 (i := 0) (by decide) (by decide) (g := (mkF m 101 #[.val (.long l1), .second, .val (.int w1), .val (.int n1), .val (.int a1), .val (.int t1), .val (.ref b15), .val (.int (1 : Int32)), .val (.int v51), .val (.int v54), .val (.int v57), .val (.int v60), .val (.ref b87), .unset, .unset, .unset] [(.int v51), (.int (0 : Int32)), (.ref b87)])) rfl rfl (hb hby at_101)
    have z92 : n0 ≤ h91.size := Nat.le_trans z89 (Keep.of_wr W91).1
    have N93 := Fr.snoc X91 N47 g_b87
    have S95 : ∀ t, Steps p.tables e below (T91.setTop (mkF m 146 #[.val (.long l1), .second, .val (.int w1), .val (.int n1), .val (.int a1), .val (.int t1), .val (.ref b15), .val (.int (1 : Int32)), .val (.int v51), .val (.int v54), .val (.int v57), .val (.int v60), .val (.ref b87), .unset, .unset, .unset] [(.int ((a1 &&& (7 : Int32)) % (6 : Int32)))])) t → Steps p.tables e below (T91.setTop (mkF m 102 #[.val (.long l1), .second, .val (.int w1), .val (.int n1), .val (.int a1), .val (.int t1), .val (.ref b15), .val (.int (1 : Int32)), .val (.int v51), .val (.int v54), .val (.int v57), .val (.int v60), .val (.ref b87), .unset, .unset, .unset] [])) t := by
      intro t kt
      show Steps p.tables e below (T91.setTop (mkF m 102 #[.val (.long l1), .second, .val (.int w1), .val (.int n1), .val (.int a1), .val (.int t1), .val (.ref b15), .val (.int (1 : Int32)), .val (.int v51), .val (.int v54), .val (.int v57), .val (.int v60), .val (.ref b87), .unset, .unset, .unset] [])) _
      refine XS.iload X91.here hx rfl (hb hby at_102) rfl ?_
      show Steps p.tables e below (T91.setTop (mkF m 104 #[.val (.long l1), .second, .val (.int w1), .val (.int n1), .val (.int a1), .val (.int t1), .val (.ref b15), .val (.int (1 : Int32)), .val (.int v51), .val (.int v54), .val (.int v57), .val (.int v60), .val (.ref b87), .unset, .unset, .unset] [(.int (1 : Int32))])) _
      refine XS.iconst X91.here hx rfl (hb hby at_104) ?_
      show Steps p.tables e below (T91.setTop (mkF m 105 #[.val (.long l1), .second, .val (.int w1), .val (.int n1), .val (.int a1), .val (.int t1), .val (.ref b15), .val (.int (1 : Int32)), .val (.int v51), .val (.int v54), .val (.int v57), .val (.int v60), .val (.ref b87), .unset, .unset, .unset] [(.int (1 : Int32)), (.int (1 : Int32))])) _
      refine XS.icmpYes X91.here hx rfl (pc0 := 105) (pc' := 114) rfl (hb hby at_105) rfl (flt (by decide)).2.2.2 (by decide) (by decide) ?_
      show Steps p.tables e below (T91.setTop (mkF m 114 #[.val (.long l1), .second, .val (.int w1), .val (.int n1), .val (.int a1), .val (.int t1), .val (.ref b15), .val (.int (1 : Int32)), .val (.int v51), .val (.int v54), .val (.int v57), .val (.int v60), .val (.ref b87), .unset, .unset, .unset] [])) _
      refine XS.iload X91.here hx rfl (hb hby at_114) rfl ?_
      show Steps p.tables e below (T91.setTop (mkF m 116 #[.val (.long l1), .second, .val (.int w1), .val (.int n1), .val (.int a1), .val (.int t1), .val (.ref b15), .val (.int (1 : Int32)), .val (.int v51), .val (.int v54), .val (.int v57), .val (.int v60), .val (.ref b87), .unset, .unset, .unset] [(.int (1 : Int32))])) _
      refine XS.iconst X91.here hx rfl (hb hby at_116) ?_
      show Steps p.tables e below (T91.setTop (mkF m 117 #[.val (.long l1), .second, .val (.int w1), .val (.int n1), .val (.int a1), .val (.int t1), .val (.ref b15), .val (.int (1 : Int32)), .val (.int v51), .val (.int v54), .val (.int v57), .val (.int v60), .val (.ref b87), .unset, .unset, .unset] [(.int (2 : Int32)), (.int (1 : Int32))])) _
      refine XS.icmpYes X91.here hx rfl (pc0 := 117) (pc' := 126) rfl (hb hby at_117) rfl (flt (by decide)).2.2.2 (by decide) (by decide) ?_
      show Steps p.tables e below (T91.setTop (mkF m 126 #[.val (.long l1), .second, .val (.int w1), .val (.int n1), .val (.int a1), .val (.int t1), .val (.ref b15), .val (.int (1 : Int32)), .val (.int v51), .val (.int v54), .val (.int v57), .val (.int v60), .val (.ref b87), .unset, .unset, .unset] [])) _
      refine XS.iload X91.here hx rfl (hb hby at_126) rfl ?_
      show Steps p.tables e below (T91.setTop (mkF m 128 #[.val (.long l1), .second, .val (.int w1), .val (.int n1), .val (.int a1), .val (.int t1), .val (.ref b15), .val (.int (1 : Int32)), .val (.int v51), .val (.int v54), .val (.int v57), .val (.int v60), .val (.ref b87), .unset, .unset, .unset] [(.int (1 : Int32))])) _
      refine XS.iconst X91.here hx rfl (hb hby at_128) ?_
      show Steps p.tables e below (T91.setTop (mkF m 129 #[.val (.long l1), .second, .val (.int w1), .val (.int n1), .val (.int a1), .val (.int t1), .val (.ref b15), .val (.int (1 : Int32)), .val (.int v51), .val (.int v54), .val (.int v57), .val (.int v60), .val (.ref b87), .unset, .unset, .unset] [(.int (3 : Int32)), (.int (1 : Int32))])) _
      refine XS.icmpYes X91.here hx rfl (pc0 := 129) (pc' := 138) rfl (hb hby at_129) rfl (flt (by decide)).2.2.2 (by decide) (by decide) ?_
      show Steps p.tables e below (T91.setTop (mkF m 138 #[.val (.long l1), .second, .val (.int w1), .val (.int n1), .val (.int a1), .val (.int t1), .val (.ref b15), .val (.int (1 : Int32)), .val (.int v51), .val (.int v54), .val (.int v57), .val (.int v60), .val (.ref b87), .unset, .unset, .unset] [])) _
      refine XS.iload X91.here hx rfl (hb hby at_138) rfl ?_
      show Steps p.tables e below (T91.setTop (mkF m 140 #[.val (.long l1), .second, .val (.int w1), .val (.int n1), .val (.int a1), .val (.int t1), .val (.ref b15), .val (.int (1 : Int32)), .val (.int v51), .val (.int v54), .val (.int v57), .val (.int v60), .val (.ref b87), .unset, .unset, .unset] [(.int a1)])) _
      refine XS.bipush X91.here hx rfl (hb hby at_140) ?_
      show Steps p.tables e below (T91.setTop (mkF m 142 #[.val (.long l1), .second, .val (.int w1), .val (.int n1), .val (.int a1), .val (.int t1), .val (.ref b15), .val (.int (1 : Int32)), .val (.int v51), .val (.int v54), .val (.int v57), .val (.int v60), .val (.ref b87), .unset, .unset, .unset] [(.int (7 : Int32)), (.int a1)])) _
      refine XS.iand X91.here hx rfl (hb hby at_142) rfl ?_
      show Steps p.tables e below (T91.setTop (mkF m 143 #[.val (.long l1), .second, .val (.int w1), .val (.int n1), .val (.int a1), .val (.int t1), .val (.ref b15), .val (.int (1 : Int32)), .val (.int v51), .val (.int v54), .val (.int v57), .val (.int v60), .val (.ref b87), .unset, .unset, .unset] [(.int (a1 &&& (7 : Int32)))])) _
      refine XS.bipush X91.here hx rfl (hb hby at_143) ?_
      show Steps p.tables e below (T91.setTop (mkF m 145 #[.val (.long l1), .second, .val (.int w1), .val (.int n1), .val (.int a1), .val (.int t1), .val (.ref b15), .val (.int (1 : Int32)), .val (.int v51), .val (.int v54), .val (.int v57), .val (.int v60), .val (.ref b87), .unset, .unset, .unset] [(.int (6 : Int32)), (.int (a1 &&& (7 : Int32)))])) _
      refine iremM X91 hx rfl (hb hby at_145) rfl (by decide) ?_
      exact kt
    obtain ⟨v94, hv94⟩ : ∃ z : Int32, z = ((a1 &&& (7 : Int32)) % (6 : Int32)) := ⟨_, rfl⟩
    have S96 : ∀ t, Steps p.tables e below (T91.setTop (mkF m 146 #[.val (.long l1), .second, .val (.int w1), .val (.int n1), .val (.int a1), .val (.int t1), .val (.ref b15), .val (.int (1 : Int32)), .val (.int v51), .val (.int v54), .val (.int v57), .val (.int v60), .val (.ref b87), .unset, .unset, .unset] [(.int v94)])) t → Steps p.tables e below (T91.setTop (mkF m 146 #[.val (.long l1), .second, .val (.int w1), .val (.int n1), .val (.int a1), .val (.int t1), .val (.ref b15), .val (.int (1 : Int32)), .val (.int v51), .val (.int v54), .val (.int v57), .val (.int v60), .val (.ref b87), .unset, .unset, .unset] [(.int ((a1 &&& (7 : Int32)) % (6 : Int32)))])) t := fun t k => by rw [hv94.symm]; exact k
    obtain ⟨an, hat, han⟩ := own_at_in _ _ hv94
    have S98 : ∀ t, Steps p.tables e below (T91.setTop (mkF m 162 #[.val (.long l1), .second, .val (.int w1), .val (.int n1), .val (.int a1), .val (.int t1), .val (.ref b15), .val (.int (1 : Int32)), .val (.int v51), .val (.int v54), .val (.int v57), .val (.int v60), .val (.ref b87), .val (.int v94), .unset, .unset] [(.int (v94 + ((t1 &&& (2147483647 : Int32)) % ((6 : Int32) - v94))))])) t → Steps p.tables e below (T91.setTop (mkF m 146 #[.val (.long l1), .second, .val (.int w1), .val (.int n1), .val (.int a1), .val (.int t1), .val (.ref b15), .val (.int (1 : Int32)), .val (.int v51), .val (.int v54), .val (.int v57), .val (.int v60), .val (.ref b87), .unset, .unset, .unset] [(.int v94)])) t := by
      intro t kt
      show Steps p.tables e below (T91.setTop (mkF m 146 #[.val (.long l1), .second, .val (.int w1), .val (.int n1), .val (.int a1), .val (.int t1), .val (.ref b15), .val (.int (1 : Int32)), .val (.int v51), .val (.int v54), .val (.int v57), .val (.int v60), .val (.ref b87), .unset, .unset, .unset] [(.int v94)])) _
      refine XS.istore X91.here hx rfl (hb hby at_146) rfl (l' := #[.val (.long l1), .second, .val (.int w1), .val (.int n1), .val (.int a1), .val (.int t1), .val (.ref b15), .val (.int (1 : Int32)), .val (.int v51), .val (.int v54), .val (.int v57), .val (.int v60), .val (.ref b87), .val (.int v94), .unset, .unset]) rfl ?_
      show Steps p.tables e below (T91.setTop (mkF m 148 #[.val (.long l1), .second, .val (.int w1), .val (.int n1), .val (.int a1), .val (.int t1), .val (.ref b15), .val (.int (1 : Int32)), .val (.int v51), .val (.int v54), .val (.int v57), .val (.int v60), .val (.ref b87), .val (.int v94), .unset, .unset] [])) _
      refine XS.iload X91.here hx rfl (hb hby at_148) rfl ?_
      show Steps p.tables e below (T91.setTop (mkF m 150 #[.val (.long l1), .second, .val (.int w1), .val (.int n1), .val (.int a1), .val (.int t1), .val (.ref b15), .val (.int (1 : Int32)), .val (.int v51), .val (.int v54), .val (.int v57), .val (.int v60), .val (.ref b87), .val (.int v94), .unset, .unset] [(.int v94)])) _
      refine XS.iload X91.here hx rfl (hb hby at_150) rfl ?_
      show Steps p.tables e below (T91.setTop (mkF m 152 #[.val (.long l1), .second, .val (.int w1), .val (.int n1), .val (.int a1), .val (.int t1), .val (.ref b15), .val (.int (1 : Int32)), .val (.int v51), .val (.int v54), .val (.int v57), .val (.int v60), .val (.ref b87), .val (.int v94), .unset, .unset] [(.int t1), (.int v94)])) _
      refine X91.ldcInt hx hown (mvT hZ (hw _ (List.mem_of_getElem? (i := 1) rfl))) (g := (mkF m 152 #[.val (.long l1), .second, .val (.int w1), .val (.int n1), .val (.int a1), .val (.int t1), .val (.ref b15), .val (.int (1 : Int32)), .val (.int v51), .val (.int v54), .val (.int v57), .val (.int v60), .val (.ref b87), .val (.int v94), .unset, .unset] [(.int t1), (.int v94)])) rfl (hb hby at_152) _ ?_
      show Steps p.tables e below (T91.setTop (mkF m 154 #[.val (.long l1), .second, .val (.int w1), .val (.int n1), .val (.int a1), .val (.int t1), .val (.ref b15), .val (.int (1 : Int32)), .val (.int v51), .val (.int v54), .val (.int v57), .val (.int v60), .val (.ref b87), .val (.int v94), .unset, .unset] [(.int (2147483647 : Int32)), (.int t1), (.int v94)])) _
      refine XS.iand X91.here hx rfl (hb hby at_154) rfl ?_
      show Steps p.tables e below (T91.setTop (mkF m 155 #[.val (.long l1), .second, .val (.int w1), .val (.int n1), .val (.int a1), .val (.int t1), .val (.ref b15), .val (.int (1 : Int32)), .val (.int v51), .val (.int v54), .val (.int v57), .val (.int v60), .val (.ref b87), .val (.int v94), .unset, .unset] [(.int (t1 &&& (2147483647 : Int32))), (.int v94)])) _
      refine XS.bipush X91.here hx rfl (hb hby at_155) ?_
      show Steps p.tables e below (T91.setTop (mkF m 157 #[.val (.long l1), .second, .val (.int w1), .val (.int n1), .val (.int a1), .val (.int t1), .val (.ref b15), .val (.int (1 : Int32)), .val (.int v51), .val (.int v54), .val (.int v57), .val (.int v60), .val (.ref b87), .val (.int v94), .unset, .unset] [(.int (6 : Int32)), (.int (t1 &&& (2147483647 : Int32))), (.int v94)])) _
      refine XS.iload X91.here hx rfl (hb hby at_157) rfl ?_
      show Steps p.tables e below (T91.setTop (mkF m 159 #[.val (.long l1), .second, .val (.int w1), .val (.int n1), .val (.int a1), .val (.int t1), .val (.ref b15), .val (.int (1 : Int32)), .val (.int v51), .val (.int v54), .val (.int v57), .val (.int v60), .val (.ref b87), .val (.int v94), .unset, .unset] [(.int v94), (.int (6 : Int32)), (.int (t1 &&& (2147483647 : Int32))), (.int v94)])) _
      refine XS.isub X91.here hx rfl (hb hby at_159) rfl ?_
      show Steps p.tables e below (T91.setTop (mkF m 160 #[.val (.long l1), .second, .val (.int w1), .val (.int n1), .val (.int a1), .val (.int t1), .val (.ref b15), .val (.int (1 : Int32)), .val (.int v51), .val (.int v54), .val (.int v57), .val (.int v60), .val (.ref b87), .val (.int v94), .unset, .unset] [(.int ((6 : Int32) - v94)), (.int (t1 &&& (2147483647 : Int32))), (.int v94)])) _
      refine iremM X91 hx rfl (hb hby at_160) rfl (own_six_ne hat han) ?_
      show Steps p.tables e below (T91.setTop (mkF m 161 #[.val (.long l1), .second, .val (.int w1), .val (.int n1), .val (.int a1), .val (.int t1), .val (.ref b15), .val (.int (1 : Int32)), .val (.int v51), .val (.int v54), .val (.int v57), .val (.int v60), .val (.ref b87), .val (.int v94), .unset, .unset] [(.int ((t1 &&& (2147483647 : Int32)) % ((6 : Int32) - v94))), (.int v94)])) _
      refine XS.iadd X91.here hx rfl (hb hby at_161) rfl ?_
      exact kt
    obtain ⟨v97, hv97⟩ : ∃ z : Int32, z = (v94 + ((t1 &&& (2147483647 : Int32)) % ((6 : Int32) - v94))) := ⟨_, rfl⟩
    have S99 : ∀ t, Steps p.tables e below (T91.setTop (mkF m 162 #[.val (.long l1), .second, .val (.int w1), .val (.int n1), .val (.int a1), .val (.int t1), .val (.ref b15), .val (.int (1 : Int32)), .val (.int v51), .val (.int v54), .val (.int v57), .val (.int v60), .val (.ref b87), .val (.int v94), .unset, .unset] [(.int v97)])) t → Steps p.tables e below (T91.setTop (mkF m 162 #[.val (.long l1), .second, .val (.int w1), .val (.int n1), .val (.int a1), .val (.int t1), .val (.ref b15), .val (.int (1 : Int32)), .val (.int v51), .val (.int v54), .val (.int v57), .val (.int v60), .val (.ref b87), .val (.int v94), .unset, .unset] [(.int (v94 + ((t1 &&& (2147483647 : Int32)) % ((6 : Int32) - v94))))])) t := fun t k => by rw [hv97.symm]; exact k
    obtain ⟨tn, hto, hle, htn, hdd⟩ := own_to_in _ _ _ hat han hv97
    have f100 := ((V45'.ext E87).other W91 ne_b15_b87)
    have S101 : ∀ t, Steps p.tables e below (T91.setTop (mkF m 171 #[.val (.long l1), .second, .val (.int w1), .val (.int n1), .val (.int a1), .val (.int t1), .val (.ref b15), .val (.int (1 : Int32)), .val (.int v51), .val (.int v54), .val (.int v57), .val (.int v60), .val (.ref b87), .val (.int v94), .val (.int v97), .unset] [(.int (v97 - v94)), (.int (1 : Int32))])) t → Steps p.tables e below (T91.setTop (mkF m 162 #[.val (.long l1), .second, .val (.int w1), .val (.int n1), .val (.int a1), .val (.int t1), .val (.ref b15), .val (.int (1 : Int32)), .val (.int v51), .val (.int v54), .val (.int v57), .val (.int v60), .val (.ref b87), .val (.int v94), .unset, .unset] [(.int v97)])) t := by
      intro t kt
      show Steps p.tables e below (T91.setTop (mkF m 162 #[.val (.long l1), .second, .val (.int w1), .val (.int n1), .val (.int a1), .val (.int t1), .val (.ref b15), .val (.int (1 : Int32)), .val (.int v51), .val (.int v54), .val (.int v57), .val (.int v60), .val (.ref b87), .val (.int v94), .unset, .unset] [(.int v97)])) _
      refine XS.istore X91.here hx rfl (hb hby at_162) rfl (l' := #[.val (.long l1), .second, .val (.int w1), .val (.int n1), .val (.int a1), .val (.int t1), .val (.ref b15), .val (.int (1 : Int32)), .val (.int v51), .val (.int v54), .val (.int v57), .val (.int v60), .val (.ref b87), .val (.int v94), .val (.int v97), .unset]) rfl ?_
      show Steps p.tables e below (T91.setTop (mkF m 164 #[.val (.long l1), .second, .val (.int w1), .val (.int n1), .val (.int a1), .val (.int t1), .val (.ref b15), .val (.int (1 : Int32)), .val (.int v51), .val (.int v54), .val (.int v57), .val (.int v60), .val (.ref b87), .val (.int v94), .val (.int v97), .unset] [])) _
      refine XS.iload X91.here hx rfl (hb hby at_164) rfl ?_
      show Steps p.tables e below (T91.setTop (mkF m 166 #[.val (.long l1), .second, .val (.int w1), .val (.int n1), .val (.int a1), .val (.int t1), .val (.ref b15), .val (.int (1 : Int32)), .val (.int v51), .val (.int v54), .val (.int v57), .val (.int v60), .val (.ref b87), .val (.int v94), .val (.int v97), .unset] [(.int (1 : Int32))])) _
      refine XS.iload X91.here hx rfl (hb hby at_166) rfl ?_
      show Steps p.tables e below (T91.setTop (mkF m 168 #[.val (.long l1), .second, .val (.int w1), .val (.int n1), .val (.int a1), .val (.int t1), .val (.ref b15), .val (.int (1 : Int32)), .val (.int v51), .val (.int v54), .val (.int v57), .val (.int v60), .val (.ref b87), .val (.int v94), .val (.int v97), .unset] [(.int v97), (.int (1 : Int32))])) _
      refine XS.iload X91.here hx rfl (hb hby at_168) rfl ?_
      show Steps p.tables e below (T91.setTop (mkF m 170 #[.val (.long l1), .second, .val (.int w1), .val (.int n1), .val (.int a1), .val (.int t1), .val (.ref b15), .val (.int (1 : Int32)), .val (.int v51), .val (.int v54), .val (.int v57), .val (.int v60), .val (.ref b87), .val (.int v94), .val (.int v97), .unset] [(.int v94), (.int v97), (.int (1 : Int32))])) _
      refine XS.isub X91.here hx rfl (hb hby at_170) rfl ?_
      exact kt
    obtain ⟨v105, hv105⟩ : ∃ z : Int32, z = (if (v97 - v94) < (1 : Int32) then (0 : Int32) else (if (own_l5 v18 v24 v30 v36 v42 an) = v51 then (1 : Int32) else (0 : Int32))) := ⟨_, rfl⟩
    have S104 : ∀ t, Steps p.tables e below (T91.setTop (mkF m 249 #[.val (.long l1), .second, .val (.int w1), .val (.int n1), .val (.int a1), .val (.int t1), .val (.ref b15), .val (.int (1 : Int32)), .val (.int v51), .val (.int v54), .val (.int v57), .val (.int v60), .val (.ref b87), .val (.int v94), .val (.int v97), .unset] [(.int v105)])) t → Steps p.tables e below (T91.setTop (mkF m 171 #[.val (.long l1), .second, .val (.int w1), .val (.int n1), .val (.int a1), .val (.int t1), .val (.ref b15), .val (.int (1 : Int32)), .val (.int v51), .val (.int v54), .val (.int v57), .val (.int v60), .val (.ref b87), .val (.int v94), .val (.int v97), .unset] [(.int (v97 - v94)), (.int (1 : Int32))])) t := by
      intro t kt
      subst hv105
      by_cases hc102 : (v97 - v94) < (1 : Int32)
      · simp only [if_pos hc102] at kt
        show Steps p.tables e below (T91.setTop (mkF m 171 #[.val (.long l1), .second, .val (.int w1), .val (.int n1), .val (.int a1), .val (.int t1), .val (.ref b15), .val (.int (1 : Int32)), .val (.int v51), .val (.int v54), .val (.int v57), .val (.int v60), .val (.ref b87), .val (.int v94), .val (.int v97), .unset] [(.int (v97 - v94)), (.int (1 : Int32))])) _
        refine XS.icmpYes X91.here hx rfl (pc0 := 171) (pc' := 248) rfl (hb hby at_171) rfl (tlt hc102).2.2.1 (by decide) (by decide) ?_
        show Steps p.tables e below (T91.setTop (mkF m 248 #[.val (.long l1), .second, .val (.int w1), .val (.int n1), .val (.int a1), .val (.int t1), .val (.ref b15), .val (.int (1 : Int32)), .val (.int v51), .val (.int v54), .val (.int v57), .val (.int v60), .val (.ref b87), .val (.int v94), .val (.int v97), .unset] [])) _
        refine XS.iconst X91.here hx rfl (hb hby at_248) ?_
        exact kt
      · by_cases hc103 : (own_l5 v18 v24 v30 v36 v42 an) = v51
        · simp only [if_neg hc102, if_pos hc103] at kt
          show Steps p.tables e below (T91.setTop (mkF m 171 #[.val (.long l1), .second, .val (.int w1), .val (.int n1), .val (.int a1), .val (.int t1), .val (.ref b15), .val (.int (1 : Int32)), .val (.int v51), .val (.int v54), .val (.int v57), .val (.int v60), .val (.ref b87), .val (.int v94), .val (.int v97), .unset] [(.int (v97 - v94)), (.int (1 : Int32))])) _
          refine XS.icmpNo X91.here hx rfl (hb hby at_171) rfl (flt hc102).2.2.1 ?_
          show Steps p.tables e below (T91.setTop (mkF m 174 #[.val (.long l1), .second, .val (.int w1), .val (.int n1), .val (.int a1), .val (.int t1), .val (.ref b15), .val (.int (1 : Int32)), .val (.int v51), .val (.int v54), .val (.int v57), .val (.int v60), .val (.ref b87), .val (.int v94), .val (.int v97), .unset] [])) _
          refine XS.iload X91.here hx rfl (hb hby at_174) rfl ?_
          show Steps p.tables e below (T91.setTop (mkF m 176 #[.val (.long l1), .second, .val (.int w1), .val (.int n1), .val (.int a1), .val (.int t1), .val (.ref b15), .val (.int (1 : Int32)), .val (.int v51), .val (.int v54), .val (.int v57), .val (.int v60), .val (.ref b87), .val (.int v94), .val (.int v97), .unset] [(.int (1 : Int32))])) _
          refine XS.iconst X91.here hx rfl (hb hby at_176) ?_
          show Steps p.tables e below (T91.setTop (mkF m 177 #[.val (.long l1), .second, .val (.int w1), .val (.int n1), .val (.int a1), .val (.int t1), .val (.ref b15), .val (.int (1 : Int32)), .val (.int v51), .val (.int v54), .val (.int v57), .val (.int v60), .val (.ref b87), .val (.int v94), .val (.int v97), .unset] [(.int (1 : Int32)), (.int (1 : Int32))])) _
          refine XS.icmpNo X91.here hx rfl (hb hby at_177) rfl (flt (by decide)).1 ?_
          show Steps p.tables e below (T91.setTop (mkF m 180 #[.val (.long l1), .second, .val (.int w1), .val (.int n1), .val (.int a1), .val (.int t1), .val (.ref b15), .val (.int (1 : Int32)), .val (.int v51), .val (.int v54), .val (.int v57), .val (.int v60), .val (.ref b87), .val (.int v94), .val (.int v97), .unset] [])) _
          refine XS.aload X91.here hx rfl (hb hby at_180) rfl rfl ?_
          show Steps p.tables e below (T91.setTop (mkF m 182 #[.val (.long l1), .second, .val (.int w1), .val (.int n1), .val (.int a1), .val (.int t1), .val (.ref b15), .val (.int (1 : Int32)), .val (.int v51), .val (.int v54), .val (.int v57), .val (.int v60), .val (.ref b87), .val (.int v94), .val (.int v97), .unset] [(.ref b15)])) _
          refine XS.iload X91.here hx rfl (hb hby at_182) rfl ?_
          show Steps p.tables e below (T91.setTop (mkF m 184 #[.val (.long l1), .second, .val (.int w1), .val (.int n1), .val (.int a1), .val (.int t1), .val (.ref b15), .val (.int (1 : Int32)), .val (.int v51), .val (.int v54), .val (.int v57), .val (.int v60), .val (.ref b87), .val (.int v94), .val (.int v97), .unset] [(.int v94), (.ref b15)])) _
          refine ArF.ldB X91 hx hZ e91 f100 (i := an) hat (by have := (own_bd hdd htn (k := 1) (by decide) hc102); omega) (v := (own_l5 v18 v24 v30 v36 v42 an)) rfl (g := (mkF m 184 #[.val (.long l1), .second, .val (.int w1), .val (.int n1), .val (.int a1), .val (.int t1), .val (.ref b15), .val (.int (1 : Int32)), .val (.int v51), .val (.int v54), .val (.int v57), .val (.int v60), .val (.ref b87), .val (.int v94), .val (.int v97), .unset] [(.int v94), (.ref b15)])) rfl rfl (hb hby at_184) _ ?_
          show Steps p.tables e below (T91.setTop (mkF m 185 #[.val (.long l1), .second, .val (.int w1), .val (.int n1), .val (.int a1), .val (.int t1), .val (.ref b15), .val (.int (1 : Int32)), .val (.int v51), .val (.int v54), .val (.int v57), .val (.int v60), .val (.ref b87), .val (.int v94), .val (.int v97), .unset] [(.int (own_l5 v18 v24 v30 v36 v42 an))])) _
          refine XS.iload X91.here hx rfl (hb hby at_185) rfl ?_
          show Steps p.tables e below (T91.setTop (mkF m 187 #[.val (.long l1), .second, .val (.int w1), .val (.int n1), .val (.int a1), .val (.int t1), .val (.ref b15), .val (.int (1 : Int32)), .val (.int v51), .val (.int v54), .val (.int v57), .val (.int v60), .val (.ref b87), .val (.int v94), .val (.int v97), .unset] [(.int v51), (.int (own_l5 v18 v24 v30 v36 v42 an))])) _
          refine XS.icmpNo X91.here hx rfl (hb hby at_187) rfl (teq hc103).2 ?_
          show Steps p.tables e below (T91.setTop (mkF m 190 #[.val (.long l1), .second, .val (.int w1), .val (.int n1), .val (.int a1), .val (.int t1), .val (.ref b15), .val (.int (1 : Int32)), .val (.int v51), .val (.int v54), .val (.int v57), .val (.int v60), .val (.ref b87), .val (.int v94), .val (.int v97), .unset] [])) _
          refine XS.iload X91.here hx rfl (hb hby at_190) rfl ?_
          show Steps p.tables e below (T91.setTop (mkF m 192 #[.val (.long l1), .second, .val (.int w1), .val (.int n1), .val (.int a1), .val (.int t1), .val (.ref b15), .val (.int (1 : Int32)), .val (.int v51), .val (.int v54), .val (.int v57), .val (.int v60), .val (.ref b87), .val (.int v94), .val (.int v97), .unset] [(.int (1 : Int32))])) _
          refine XS.iconst X91.here hx rfl (hb hby at_192) ?_
          show Steps p.tables e below (T91.setTop (mkF m 193 #[.val (.long l1), .second, .val (.int w1), .val (.int n1), .val (.int a1), .val (.int t1), .val (.ref b15), .val (.int (1 : Int32)), .val (.int v51), .val (.int v54), .val (.int v57), .val (.int v60), .val (.ref b87), .val (.int v94), .val (.int v97), .unset] [(.int (2 : Int32)), (.int (1 : Int32))])) _
          refine XS.icmpYes X91.here hx rfl (pc0 := 193) (pc' := 208) rfl (hb hby at_193) rfl (tlt (by decide)).1 (by decide) (by decide) ?_
          show Steps p.tables e below (T91.setTop (mkF m 208 #[.val (.long l1), .second, .val (.int w1), .val (.int n1), .val (.int a1), .val (.int t1), .val (.ref b15), .val (.int (1 : Int32)), .val (.int v51), .val (.int v54), .val (.int v57), .val (.int v60), .val (.ref b87), .val (.int v94), .val (.int v97), .unset] [])) _
          refine XS.iload X91.here hx rfl (hb hby at_208) rfl ?_
          show Steps p.tables e below (T91.setTop (mkF m 210 #[.val (.long l1), .second, .val (.int w1), .val (.int n1), .val (.int a1), .val (.int t1), .val (.ref b15), .val (.int (1 : Int32)), .val (.int v51), .val (.int v54), .val (.int v57), .val (.int v60), .val (.ref b87), .val (.int v94), .val (.int v97), .unset] [(.int (1 : Int32))])) _
          refine XS.iconst X91.here hx rfl (hb hby at_210) ?_
          show Steps p.tables e below (T91.setTop (mkF m 211 #[.val (.long l1), .second, .val (.int w1), .val (.int n1), .val (.int a1), .val (.int t1), .val (.ref b15), .val (.int (1 : Int32)), .val (.int v51), .val (.int v54), .val (.int v57), .val (.int v60), .val (.ref b87), .val (.int v94), .val (.int v97), .unset] [(.int (3 : Int32)), (.int (1 : Int32))])) _
          refine XS.icmpYes X91.here hx rfl (pc0 := 211) (pc' := 226) rfl (hb hby at_211) rfl (tlt (by decide)).1 (by decide) (by decide) ?_
          show Steps p.tables e below (T91.setTop (mkF m 226 #[.val (.long l1), .second, .val (.int w1), .val (.int n1), .val (.int a1), .val (.int t1), .val (.ref b15), .val (.int (1 : Int32)), .val (.int v51), .val (.int v54), .val (.int v57), .val (.int v60), .val (.ref b87), .val (.int v94), .val (.int v97), .unset] [])) _
          refine XS.iload X91.here hx rfl (hb hby at_226) rfl ?_
          show Steps p.tables e below (T91.setTop (mkF m 228 #[.val (.long l1), .second, .val (.int w1), .val (.int n1), .val (.int a1), .val (.int t1), .val (.ref b15), .val (.int (1 : Int32)), .val (.int v51), .val (.int v54), .val (.int v57), .val (.int v60), .val (.ref b87), .val (.int v94), .val (.int v97), .unset] [(.int (1 : Int32))])) _
          refine XS.iconst X91.here hx rfl (hb hby at_228) ?_
          show Steps p.tables e below (T91.setTop (mkF m 229 #[.val (.long l1), .second, .val (.int w1), .val (.int n1), .val (.int a1), .val (.int t1), .val (.ref b15), .val (.int (1 : Int32)), .val (.int v51), .val (.int v54), .val (.int v57), .val (.int v60), .val (.ref b87), .val (.int v94), .val (.int v97), .unset] [(.int (4 : Int32)), (.int (1 : Int32))])) _
          refine XS.icmpYes X91.here hx rfl (pc0 := 229) (pc' := 244) rfl (hb hby at_229) rfl (tlt (by decide)).1 (by decide) (by decide) ?_
          show Steps p.tables e below (T91.setTop (mkF m 244 #[.val (.long l1), .second, .val (.int w1), .val (.int n1), .val (.int a1), .val (.int t1), .val (.ref b15), .val (.int (1 : Int32)), .val (.int v51), .val (.int v54), .val (.int v57), .val (.int v60), .val (.ref b87), .val (.int v94), .val (.int v97), .unset] [])) _
          refine XS.iconst X91.here hx rfl (hb hby at_244) ?_
          show Steps p.tables e below (T91.setTop (mkF m 245 #[.val (.long l1), .second, .val (.int w1), .val (.int n1), .val (.int a1), .val (.int t1), .val (.ref b15), .val (.int (1 : Int32)), .val (.int v51), .val (.int v54), .val (.int v57), .val (.int v60), .val (.ref b87), .val (.int v94), .val (.int v97), .unset] [(.int (1 : Int32))])) _
          refine XS.goto X91.here hx rfl (pc0 := 245) (pc' := 249) rfl (hb hby at_245) (by decide) (by decide) ?_
          exact kt
        · simp only [if_neg hc102, if_neg hc103] at kt
          show Steps p.tables e below (T91.setTop (mkF m 171 #[.val (.long l1), .second, .val (.int w1), .val (.int n1), .val (.int a1), .val (.int t1), .val (.ref b15), .val (.int (1 : Int32)), .val (.int v51), .val (.int v54), .val (.int v57), .val (.int v60), .val (.ref b87), .val (.int v94), .val (.int v97), .unset] [(.int (v97 - v94)), (.int (1 : Int32))])) _
          refine XS.icmpNo X91.here hx rfl (hb hby at_171) rfl (flt hc102).2.2.1 ?_
          show Steps p.tables e below (T91.setTop (mkF m 174 #[.val (.long l1), .second, .val (.int w1), .val (.int n1), .val (.int a1), .val (.int t1), .val (.ref b15), .val (.int (1 : Int32)), .val (.int v51), .val (.int v54), .val (.int v57), .val (.int v60), .val (.ref b87), .val (.int v94), .val (.int v97), .unset] [])) _
          refine XS.iload X91.here hx rfl (hb hby at_174) rfl ?_
          show Steps p.tables e below (T91.setTop (mkF m 176 #[.val (.long l1), .second, .val (.int w1), .val (.int n1), .val (.int a1), .val (.int t1), .val (.ref b15), .val (.int (1 : Int32)), .val (.int v51), .val (.int v54), .val (.int v57), .val (.int v60), .val (.ref b87), .val (.int v94), .val (.int v97), .unset] [(.int (1 : Int32))])) _
          refine XS.iconst X91.here hx rfl (hb hby at_176) ?_
          show Steps p.tables e below (T91.setTop (mkF m 177 #[.val (.long l1), .second, .val (.int w1), .val (.int n1), .val (.int a1), .val (.int t1), .val (.ref b15), .val (.int (1 : Int32)), .val (.int v51), .val (.int v54), .val (.int v57), .val (.int v60), .val (.ref b87), .val (.int v94), .val (.int v97), .unset] [(.int (1 : Int32)), (.int (1 : Int32))])) _
          refine XS.icmpNo X91.here hx rfl (hb hby at_177) rfl (flt (by decide)).1 ?_
          show Steps p.tables e below (T91.setTop (mkF m 180 #[.val (.long l1), .second, .val (.int w1), .val (.int n1), .val (.int a1), .val (.int t1), .val (.ref b15), .val (.int (1 : Int32)), .val (.int v51), .val (.int v54), .val (.int v57), .val (.int v60), .val (.ref b87), .val (.int v94), .val (.int v97), .unset] [])) _
          refine XS.aload X91.here hx rfl (hb hby at_180) rfl rfl ?_
          show Steps p.tables e below (T91.setTop (mkF m 182 #[.val (.long l1), .second, .val (.int w1), .val (.int n1), .val (.int a1), .val (.int t1), .val (.ref b15), .val (.int (1 : Int32)), .val (.int v51), .val (.int v54), .val (.int v57), .val (.int v60), .val (.ref b87), .val (.int v94), .val (.int v97), .unset] [(.ref b15)])) _
          refine XS.iload X91.here hx rfl (hb hby at_182) rfl ?_
          show Steps p.tables e below (T91.setTop (mkF m 184 #[.val (.long l1), .second, .val (.int w1), .val (.int n1), .val (.int a1), .val (.int t1), .val (.ref b15), .val (.int (1 : Int32)), .val (.int v51), .val (.int v54), .val (.int v57), .val (.int v60), .val (.ref b87), .val (.int v94), .val (.int v97), .unset] [(.int v94), (.ref b15)])) _
          refine ArF.ldB X91 hx hZ e91 f100 (i := an) hat (by have := (own_bd hdd htn (k := 1) (by decide) hc102); omega) (v := (own_l5 v18 v24 v30 v36 v42 an)) rfl (g := (mkF m 184 #[.val (.long l1), .second, .val (.int w1), .val (.int n1), .val (.int a1), .val (.int t1), .val (.ref b15), .val (.int (1 : Int32)), .val (.int v51), .val (.int v54), .val (.int v57), .val (.int v60), .val (.ref b87), .val (.int v94), .val (.int v97), .unset] [(.int v94), (.ref b15)])) rfl rfl (hb hby at_184) _ ?_
          show Steps p.tables e below (T91.setTop (mkF m 185 #[.val (.long l1), .second, .val (.int w1), .val (.int n1), .val (.int a1), .val (.int t1), .val (.ref b15), .val (.int (1 : Int32)), .val (.int v51), .val (.int v54), .val (.int v57), .val (.int v60), .val (.ref b87), .val (.int v94), .val (.int v97), .unset] [(.int (own_l5 v18 v24 v30 v36 v42 an))])) _
          refine XS.iload X91.here hx rfl (hb hby at_185) rfl ?_
          show Steps p.tables e below (T91.setTop (mkF m 187 #[.val (.long l1), .second, .val (.int w1), .val (.int n1), .val (.int a1), .val (.int t1), .val (.ref b15), .val (.int (1 : Int32)), .val (.int v51), .val (.int v54), .val (.int v57), .val (.int v60), .val (.ref b87), .val (.int v94), .val (.int v97), .unset] [(.int v51), (.int (own_l5 v18 v24 v30 v36 v42 an))])) _
          refine XS.icmpYes X91.here hx rfl (pc0 := 187) (pc' := 248) rfl (hb hby at_187) rfl (feq hc103).2 (by decide) (by decide) ?_
          show Steps p.tables e below (T91.setTop (mkF m 248 #[.val (.long l1), .second, .val (.int w1), .val (.int n1), .val (.int a1), .val (.int t1), .val (.ref b15), .val (.int (1 : Int32)), .val (.int v51), .val (.int v54), .val (.int v57), .val (.int v60), .val (.ref b87), .val (.int v94), .val (.int v97), .unset] [])) _
          refine XS.iconst X91.here hx rfl (hb hby at_248) ?_
          exact kt
    have hva : ArF Z h91 b87 .byte 1 (fun q => (.int ((own_l4 v51 v54 v57 v60) q))) := V91.congr (fun i hi => by rcases (show i = 0 by omega) with rfl <;> simp [own_l4, nbv51, nbv54, nbv57, nbv60])
    have S106 : ∀ t, Steps p.tables e below (T91.setTop (mkF m 259 #[.val (.long l1), .second, .val (.int w1), .val (.int n1), .val (.int a1), .val (.int t1), .val (.ref b15), .val (.int (1 : Int32)), .val (.int v51), .val (.int v54), .val (.int v57), .val (.int v60), .val (.ref b87), .val (.int v94), .val (.int v97), .val (.int v105)] [(.ref b87), (.int v97), (.int v94), (.ref b15)])) t → Steps p.tables e below (T91.setTop (mkF m 249 #[.val (.long l1), .second, .val (.int w1), .val (.int n1), .val (.int a1), .val (.int t1), .val (.ref b15), .val (.int (1 : Int32)), .val (.int v51), .val (.int v54), .val (.int v57), .val (.int v60), .val (.ref b87), .val (.int v94), .val (.int v97), .unset] [(.int v105)])) t := by
      intro t kt
      show Steps p.tables e below (T91.setTop (mkF m 249 #[.val (.long l1), .second, .val (.int w1), .val (.int n1), .val (.int a1), .val (.int t1), .val (.ref b15), .val (.int (1 : Int32)), .val (.int v51), .val (.int v54), .val (.int v57), .val (.int v60), .val (.ref b87), .val (.int v94), .val (.int v97), .unset] [(.int v105)])) _
      refine XS.istore X91.here hx rfl (hb hby at_249) rfl (l' := #[.val (.long l1), .second, .val (.int w1), .val (.int n1), .val (.int a1), .val (.int t1), .val (.ref b15), .val (.int (1 : Int32)), .val (.int v51), .val (.int v54), .val (.int v57), .val (.int v60), .val (.ref b87), .val (.int v94), .val (.int v97), .val (.int v105)]) rfl ?_
      show Steps p.tables e below (T91.setTop (mkF m 251 #[.val (.long l1), .second, .val (.int w1), .val (.int n1), .val (.int a1), .val (.int t1), .val (.ref b15), .val (.int (1 : Int32)), .val (.int v51), .val (.int v54), .val (.int v57), .val (.int v60), .val (.ref b87), .val (.int v94), .val (.int v97), .val (.int v105)] [])) _
      refine XS.aload X91.here hx rfl (hb hby at_251) rfl rfl ?_
      show Steps p.tables e below (T91.setTop (mkF m 253 #[.val (.long l1), .second, .val (.int w1), .val (.int n1), .val (.int a1), .val (.int t1), .val (.ref b15), .val (.int (1 : Int32)), .val (.int v51), .val (.int v54), .val (.int v57), .val (.int v60), .val (.ref b87), .val (.int v94), .val (.int v97), .val (.int v105)] [(.ref b15)])) _
      refine XS.iload X91.here hx rfl (hb hby at_253) rfl ?_
      show Steps p.tables e below (T91.setTop (mkF m 255 #[.val (.long l1), .second, .val (.int w1), .val (.int n1), .val (.int a1), .val (.int t1), .val (.ref b15), .val (.int (1 : Int32)), .val (.int v51), .val (.int v54), .val (.int v57), .val (.int v60), .val (.ref b87), .val (.int v94), .val (.int v97), .val (.int v105)] [(.int v94), (.ref b15)])) _
      refine XS.iload X91.here hx rfl (hb hby at_255) rfl ?_
      show Steps p.tables e below (T91.setTop (mkF m 257 #[.val (.long l1), .second, .val (.int w1), .val (.int n1), .val (.int a1), .val (.int t1), .val (.ref b15), .val (.int (1 : Int32)), .val (.int v51), .val (.int v54), .val (.int v57), .val (.int v60), .val (.ref b87), .val (.int v94), .val (.int v97), .val (.int v105)] [(.int v97), (.int v94), (.ref b15)])) _
      refine XS.aload X91.here hx rfl (hb hby at_257) rfl rfl ?_
      exact kt
    obtain ⟨_, _, ⟨T107, L107, k107, n107⟩, -, X107, ⟨Lc107, hQ107, l107, y107, z107⟩, st107⟩ := Jvm.LawKit.callS X91 hx (y := (⟨"com/example/joinery/joinery/Bytes", "startsWith", "([BII[B)Z"⟩ : MethodName)) hown (mvT hZ (hw _ (List.mem_of_getElem? (i := 2) rfl))) (mvT hZ (hw _ (List.mem_of_getElem? (i := 3) rfl))) (mvT hZ (hw _ (List.mem_of_getElem? (i := 4) rfl))) (mvT hZ (hw _ (List.mem_of_getElem? (i := 5) rfl))) (by decide) (backOf (W := 0) (rm1 l Z a0 hw [] b15 v94 v97 b87 an tn 1 (own_l5 v18 v24 v30 v36 v42) (own_l4 v51 v54 v57 v60) h91 n0 z92 f100 hva hat hdd htn (by decide)) hZ (hw _ (List.mem_of_getElem? (i := 5) rfl)) (hw _ (List.mem_of_getElem? (i := 4) rfl)) (by decide) (by decide)) (g := (mkF m 259 #[.val (.long l1), .second, .val (.int w1), .val (.int n1), .val (.int a1), .val (.int t1), .val (.ref b15), .val (.int (1 : Int32)), .val (.int v51), .val (.int v54), .val (.int v57), .val (.int v60), .val (.ref b87), .val (.int v94), .val (.int v97), .val (.int v105)] [(.ref b87), (.int v97), (.int v94), (.ref b15)])) rfl (by rw [hml]; rfl) (argsL := [(.ref b15), (.int v94), (.int v97), (.ref b87)]) (rest := []) (lenOf pd_0 rfl) rfl (by show 2 * 0 + _ ≤ _; exact Nat.le_of_eq rfl) (hb hby at_259) (fun _ _ => ⟨rfl, e91, (by decide : 2 + 0 ≤ _), (by decide : 6 + 0 ≤ _)⟩)
    dsimp only [Pt.U, Pt.locs, Pt.cells, Pt.slots] at X107 l107 y107 z107 st107 hQ107
    subst l107 y107 z107
    obtain ⟨rfl, N107q, e107⟩ := hQ107
    have N107 := Fr.app N93 N107q
    have S108 : ∀ t, Steps p.tables e below (T107.setTop (mkF m 272 #[.val (.long l1), .second, .val (.int w1), .val (.int n1), .val (.int a1), .val (.int t1), .val (.ref b15), .val (.int (1 : Int32)), .val (.int v51), .val (.int v54), .val (.int v57), .val (.int v60), .val (.ref b87), .val (.int v94), .val (.int v97), .val (.int v105)] [(.int (1 : Int32))])) t → Steps p.tables e below (T107.setTop (mkF m 262 #[.val (.long l1), .second, .val (.int w1), .val (.int n1), .val (.int a1), .val (.int t1), .val (.ref b15), .val (.int (1 : Int32)), .val (.int v51), .val (.int v54), .val (.int v57), .val (.int v60), .val (.ref b87), .val (.int v94), .val (.int v97), .val (.int v105)] [(.int (own_sw (own_l5 v18 v24 v30 v36 v42) (own_l4 v51 v54 v57 v60) an (v97 - v94) 1))])) t := by
      intro t kt
      show Steps p.tables e below (T107.setTop (mkF m 262 #[.val (.long l1), .second, .val (.int w1), .val (.int n1), .val (.int a1), .val (.int t1), .val (.ref b15), .val (.int (1 : Int32)), .val (.int v51), .val (.int v54), .val (.int v57), .val (.int v60), .val (.ref b87), .val (.int v94), .val (.int v97), .val (.int v105)] [(.int (own_sw (own_l5 v18 v24 v30 v36 v42) (own_l4 v51 v54 v57 v60) an (v97 - v94) 1))])) _
      refine XS.iload X107.here hx rfl (hb hby at_262) rfl ?_
      show Steps p.tables e below (T107.setTop (mkF m 264 #[.val (.long l1), .second, .val (.int w1), .val (.int n1), .val (.int a1), .val (.int t1), .val (.ref b15), .val (.int (1 : Int32)), .val (.int v51), .val (.int v54), .val (.int v57), .val (.int v60), .val (.ref b87), .val (.int v94), .val (.int v97), .val (.int v105)] [(.int v105), (.int (own_sw (own_l5 v18 v24 v30 v36 v42) (own_l4 v51 v54 v57 v60) an (v97 - v94) 1))])) _
      refine XS.icmpNo X107.here hx rfl (hb hby at_264) rfl (teq (show (own_sw (own_l5 v18 v24 v30 v36 v42) (own_l4 v51 v54 v57 v60) an (v97 - v94) 1) = v105 from by rw [hv105]; rfl)).2 ?_
      show Steps p.tables e below (T107.setTop (mkF m 267 #[.val (.long l1), .second, .val (.int w1), .val (.int n1), .val (.int a1), .val (.int t1), .val (.ref b15), .val (.int (1 : Int32)), .val (.int v51), .val (.int v54), .val (.int v57), .val (.int v60), .val (.ref b87), .val (.int v94), .val (.int v97), .val (.int v105)] [])) _
      refine XS.iconst X107.here hx rfl (hb hby at_267) ?_
      show Steps p.tables e below (T107.setTop (mkF m 268 #[.val (.long l1), .second, .val (.int w1), .val (.int n1), .val (.int a1), .val (.int t1), .val (.ref b15), .val (.int (1 : Int32)), .val (.int v51), .val (.int v54), .val (.int v57), .val (.int v60), .val (.ref b87), .val (.int v94), .val (.int v97), .val (.int v105)] [(.int (1 : Int32))])) _
      refine XS.goto X107.here hx rfl (pc0 := 268) (pc' := 272) rfl (hb hby at_268) (by decide) (by decide) ?_
      exact kt
    have C109 : ∀ t, Steps p.tables e below (T107.setTop (mkF m 272 #[.val (.long l1), .second, .val (.int w1), .val (.int n1), .val (.int a1), .val (.int t1), .val (.ref b15), .val (.int (1 : Int32)), .val (.int v51), .val (.int v54), .val (.int v57), .val (.int v60), .val (.ref b87), .val (.int v94), .val (.int v97), .val (.int v105)] [(.int (1 : Int32))])) t → Steps p.tables e below (s₁.setTop (mkF m 0 #[.val (.long l1), .second, .val (.int w1), .val (.int n1), .val (.int a1), .val (.int t1), .unset, .unset, .unset, .unset, .unset, .unset, .unset, .unset, .unset, .unset] [])) t := (fun t k => (C64 t (S85 t (S86 t (st87 t (S90 t (st91 t (S95 t (S96 t (S98 t (S99 t (S101 t (S104 t (S106 t (st107 t (S108 t k))))))))))))))))
    obtain ⟨fs, hr, hrun, hended, hW, hsame⟩ := X107.leave (v := some (.int (1 : Int32))) (fun h => by rw [Bd.returns] at h; cases h)
    refine ⟨_, _, pre0 _ (C109 _ ?_), hrun, hended, _, _, rfl, ?_, ⟨_, rfl⟩, hW, hsame.mono (by decide) (by decide)⟩
    · exact retN X107 hx (t := .boolean) Bd.returns (by simp) (hb hby at_272) hr
    · show Q_rm0 Z l1 w1 n1 a1 t1 h0 n0 _ T107.heap _
      rw [e107]
      exact ⟨rfl, N107⟩
  · have S110 : ∀ t, Steps p.tables e below (T45.setTop (mkF m 85 #[.val (.long l1), .second, .val (.int w1), .val (.int n1), .val (.int a1), .val (.int t1), .val (.ref b15), .val (.int (2 : Int32)), .val (.int v51), .val (.int v54), .val (.int v57), .val (.int v60), .unset, .unset, .unset, .unset] [])) t → Steps p.tables e below (T45.setTop (mkF m 85 #[.val (.long l1), .second, .val (.int w1), .val (.int n1), .val (.int a1), .val (.int t1), .val (.ref b15), .val (.int v48), .val (.int v51), .val (.int v54), .val (.int v57), .val (.int v60), .unset, .unset, .unset, .unset] [])) t := fun t k => by rw [qv48]; exact k
    have S111 : ∀ t, Steps p.tables e below (T45.setTop (mkF m 87 #[.val (.long l1), .second, .val (.int w1), .val (.int n1), .val (.int a1), .val (.int t1), .val (.ref b15), .val (.int (2 : Int32)), .val (.int v51), .val (.int v54), .val (.int v57), .val (.int v60), .unset, .unset, .unset, .unset] [(.int (2 : Int32))])) t → Steps p.tables e below (T45.setTop (mkF m 85 #[.val (.long l1), .second, .val (.int w1), .val (.int n1), .val (.int a1), .val (.int t1), .val (.ref b15), .val (.int (2 : Int32)), .val (.int v51), .val (.int v54), .val (.int v57), .val (.int v60), .unset, .unset, .unset, .unset] [])) t := by
      intro t kt
      show Steps p.tables e below (T45.setTop (mkF m 85 #[.val (.long l1), .second, .val (.int w1), .val (.int n1), .val (.int a1), .val (.int t1), .val (.ref b15), .val (.int (2 : Int32)), .val (.int v51), .val (.int v54), .val (.int v57), .val (.int v60), .unset, .unset, .unset, .unset] [])) _
      refine XS.iload X45.here hx rfl (hb hby at_85) rfl ?_
      exact kt
    obtain ⟨T112, h112, k112, X112, e112, E112, A112, st112⟩ := newP X45 hx hZ (hw _ (List.mem_of_getElem? (i := 0) rfl)) e45 (g := (mkF m 87 #[.val (.long l1), .second, .val (.int w1), .val (.int n1), .val (.int a1), .val (.int t1), .val (.ref b15), .val (.int (2 : Int32)), .val (.int v51), .val (.int v54), .val (.int v57), .val (.int v60), .unset, .unset, .unset, .unset] [(.int (2 : Int32))])) rfl (hb hby at_87) rfl (by decide) (cap := 2) (by decide) (by decide) (by decide) (by decide)
    obtain ⟨b112, g112⟩ : ∃ z, z = h45.size := ⟨_, rfl⟩
    rw [← g112] at A112 st112
    have g_b112 : n0 ≤ b112 := Nat.le_trans z46 (Nat.le_of_eq g112.symm)
    have K113 := ((((((K16.ext E15).wr W21 (Or.inr sz_b15)).wr W27 (Or.inr sz_b15)).wr W33 (Or.inr sz_b15)).wr W39 (Or.inr sz_b15)).wr W45 (Or.inr sz_b15))
    have sz_b112 : h0.size ≤ b112 := Nat.le_trans K113.1 (Nat.le_of_eq g112.symm)
    have ne_b15_b112 : b15 ≠ b112 := Nat.ne_of_lt (Nat.lt_of_lt_of_le V45'.lt (Nat.le_of_eq g112.symm))
    have z114 : n0 ≤ h112.size := Nat.le_trans z46 E112.1
    have V112 : ArF Z h112 b112 .byte 2 (fun _ => (.int (0 : Int32))) := ArF.new A112 (by decide) rfl
    have S115 : ∀ t, Steps p.tables e below (T112.setTop (mkF m 101 #[.val (.long l1), .second, .val (.int w1), .val (.int n1), .val (.int a1), .val (.int t1), .val (.ref b15), .val (.int (2 : Int32)), .val (.int v51), .val (.int v54), .val (.int v57), .val (.int v60), .val (.ref b112), .unset, .unset, .unset] [(.int v51), (.int (0 : Int32)), (.ref b112)])) t → Steps p.tables e below (T112.setTop (mkF m 89 #[.val (.long l1), .second, .val (.int w1), .val (.int n1), .val (.int a1), .val (.int t1), .val (.ref b15), .val (.int (2 : Int32)), .val (.int v51), .val (.int v54), .val (.int v57), .val (.int v60), .unset, .unset, .unset, .unset] [(.ref b112)])) t := by
      intro t kt
      show Steps p.tables e below (T112.setTop (mkF m 89 #[.val (.long l1), .second, .val (.int w1), .val (.int n1), .val (.int a1), .val (.int t1), .val (.ref b15), .val (.int (2 : Int32)), .val (.int v51), .val (.int v54), .val (.int v57), .val (.int v60), .unset, .unset, .unset, .unset] [(.ref b112)])) _
      refine XS.astore X112.here hx rfl (hb hby at_89) rfl rfl (l' := #[.val (.long l1), .second, .val (.int w1), .val (.int n1), .val (.int a1), .val (.int t1), .val (.ref b15), .val (.int (2 : Int32)), .val (.int v51), .val (.int v54), .val (.int v57), .val (.int v60), .val (.ref b112), .unset, .unset, .unset]) rfl ?_
      show Steps p.tables e below (T112.setTop (mkF m 91 #[.val (.long l1), .second, .val (.int w1), .val (.int n1), .val (.int a1), .val (.int t1), .val (.ref b15), .val (.int (2 : Int32)), .val (.int v51), .val (.int v54), .val (.int v57), .val (.int v60), .val (.ref b112), .unset, .unset, .unset] [])) _
      refine XS.iload X112.here hx rfl (hb hby at_91) rfl ?_
      show Steps p.tables e below (T112.setTop (mkF m 93 #[.val (.long l1), .second, .val (.int w1), .val (.int n1), .val (.int a1), .val (.int t1), .val (.ref b15), .val (.int (2 : Int32)), .val (.int v51), .val (.int v54), .val (.int v57), .val (.int v60), .val (.ref b112), .unset, .unset, .unset] [(.int (2 : Int32))])) _
      refine XS.ifNo X112.here hx rfl (hb hby at_93) rfl ((if0 _ _).trans (tlt (by decide)).2.2.2) ?_
      show Steps p.tables e below (T112.setTop (mkF m 96 #[.val (.long l1), .second, .val (.int w1), .val (.int n1), .val (.int a1), .val (.int t1), .val (.ref b15), .val (.int (2 : Int32)), .val (.int v51), .val (.int v54), .val (.int v57), .val (.int v60), .val (.ref b112), .unset, .unset, .unset] [])) _
      refine XS.aload X112.here hx rfl (hb hby at_96) rfl rfl ?_
      show Steps p.tables e below (T112.setTop (mkF m 98 #[.val (.long l1), .second, .val (.int w1), .val (.int n1), .val (.int a1), .val (.int t1), .val (.ref b15), .val (.int (2 : Int32)), .val (.int v51), .val (.int v54), .val (.int v57), .val (.int v60), .val (.ref b112), .unset, .unset, .unset] [(.ref b112)])) _
      refine XS.iconst X112.here hx rfl (hb hby at_98) ?_
      show Steps p.tables e below (T112.setTop (mkF m 99 #[.val (.long l1), .second, .val (.int w1), .val (.int n1), .val (.int a1), .val (.int t1), .val (.ref b15), .val (.int (2 : Int32)), .val (.int v51), .val (.int v54), .val (.int v57), .val (.int v60), .val (.ref b112), .unset, .unset, .unset] [(.int (0 : Int32)), (.ref b112)])) _
      refine XS.iload X112.here hx rfl (hb hby at_99) rfl ?_
      exact kt
    obtain ⟨T116, h116, X116, e116, W116, V116, st116⟩ := ArF.stB X112 hx hZ e112 V112 (i := 0) (by decide) (by decide) (g := (mkF m 101 #[.val (.long l1), .second, .val (.int w1), .val (.int n1), .val (.int a1), .val (.int t1), .val (.ref b15), .val (.int (2 : Int32)), .val (.int v51), .val (.int v54), .val (.int v57), .val (.int v60), .val (.ref b112), .unset, .unset, .unset] [(.int v51), (.int (0 : Int32)), (.ref b112)])) rfl rfl (hb hby at_101)
    have z117 : n0 ≤ h116.size := Nat.le_trans z114 (Keep.of_wr W116).1
    have N118 := Fr.snoc X116 N47 g_b112
    have S119 : ∀ t, Steps p.tables e below (T116.setTop (mkF m 113 #[.val (.long l1), .second, .val (.int w1), .val (.int n1), .val (.int a1), .val (.int t1), .val (.ref b15), .val (.int (2 : Int32)), .val (.int v51), .val (.int v54), .val (.int v57), .val (.int v60), .val (.ref b112), .unset, .unset, .unset] [(.int v54), (.int (1 : Int32)), (.ref b112)])) t → Steps p.tables e below (T116.setTop (mkF m 102 #[.val (.long l1), .second, .val (.int w1), .val (.int n1), .val (.int a1), .val (.int t1), .val (.ref b15), .val (.int (2 : Int32)), .val (.int v51), .val (.int v54), .val (.int v57), .val (.int v60), .val (.ref b112), .unset, .unset, .unset] [])) t := by
      intro t kt
      show Steps p.tables e below (T116.setTop (mkF m 102 #[.val (.long l1), .second, .val (.int w1), .val (.int n1), .val (.int a1), .val (.int t1), .val (.ref b15), .val (.int (2 : Int32)), .val (.int v51), .val (.int v54), .val (.int v57), .val (.int v60), .val (.ref b112), .unset, .unset, .unset] [])) _
      refine XS.iload X116.here hx rfl (hb hby at_102) rfl ?_
      show Steps p.tables e below (T116.setTop (mkF m 104 #[.val (.long l1), .second, .val (.int w1), .val (.int n1), .val (.int a1), .val (.int t1), .val (.ref b15), .val (.int (2 : Int32)), .val (.int v51), .val (.int v54), .val (.int v57), .val (.int v60), .val (.ref b112), .unset, .unset, .unset] [(.int (2 : Int32))])) _
      refine XS.iconst X116.here hx rfl (hb hby at_104) ?_
      show Steps p.tables e below (T116.setTop (mkF m 105 #[.val (.long l1), .second, .val (.int w1), .val (.int n1), .val (.int a1), .val (.int t1), .val (.ref b15), .val (.int (2 : Int32)), .val (.int v51), .val (.int v54), .val (.int v57), .val (.int v60), .val (.ref b112), .unset, .unset, .unset] [(.int (1 : Int32)), (.int (2 : Int32))])) _
      refine XS.icmpNo X116.here hx rfl (hb hby at_105) rfl (tlt (by decide)).2.2.2 ?_
      show Steps p.tables e below (T116.setTop (mkF m 108 #[.val (.long l1), .second, .val (.int w1), .val (.int n1), .val (.int a1), .val (.int t1), .val (.ref b15), .val (.int (2 : Int32)), .val (.int v51), .val (.int v54), .val (.int v57), .val (.int v60), .val (.ref b112), .unset, .unset, .unset] [])) _
      refine XS.aload X116.here hx rfl (hb hby at_108) rfl rfl ?_
      show Steps p.tables e below (T116.setTop (mkF m 110 #[.val (.long l1), .second, .val (.int w1), .val (.int n1), .val (.int a1), .val (.int t1), .val (.ref b15), .val (.int (2 : Int32)), .val (.int v51), .val (.int v54), .val (.int v57), .val (.int v60), .val (.ref b112), .unset, .unset, .unset] [(.ref b112)])) _
      refine XS.iconst X116.here hx rfl (hb hby at_110) ?_
      show Steps p.tables e below (T116.setTop (mkF m 111 #[.val (.long l1), .second, .val (.int w1), .val (.int n1), .val (.int a1), .val (.int t1), .val (.ref b15), .val (.int (2 : Int32)), .val (.int v51), .val (.int v54), .val (.int v57), .val (.int v60), .val (.ref b112), .unset, .unset, .unset] [(.int (1 : Int32)), (.ref b112)])) _
      refine XS.iload X116.here hx rfl (hb hby at_111) rfl ?_
      exact kt
    obtain ⟨T120, h120, X120, e120, W120, V120, st120⟩ := ArF.stB X116 hx hZ e116 V116 (i := 1) (by decide) (by decide) (g := (mkF m 113 #[.val (.long l1), .second, .val (.int w1), .val (.int n1), .val (.int a1), .val (.int t1), .val (.ref b15), .val (.int (2 : Int32)), .val (.int v51), .val (.int v54), .val (.int v57), .val (.int v60), .val (.ref b112), .unset, .unset, .unset] [(.int v54), (.int (1 : Int32)), (.ref b112)])) rfl rfl (hb hby at_113)
    have z121 : n0 ≤ h120.size := Nat.le_trans z117 (Keep.of_wr W120).1
    have N122 := Fr.snoc X120 N118 g_b112
    have S124 : ∀ t, Steps p.tables e below (T120.setTop (mkF m 146 #[.val (.long l1), .second, .val (.int w1), .val (.int n1), .val (.int a1), .val (.int t1), .val (.ref b15), .val (.int (2 : Int32)), .val (.int v51), .val (.int v54), .val (.int v57), .val (.int v60), .val (.ref b112), .unset, .unset, .unset] [(.int ((a1 &&& (7 : Int32)) % (6 : Int32)))])) t → Steps p.tables e below (T120.setTop (mkF m 114 #[.val (.long l1), .second, .val (.int w1), .val (.int n1), .val (.int a1), .val (.int t1), .val (.ref b15), .val (.int (2 : Int32)), .val (.int v51), .val (.int v54), .val (.int v57), .val (.int v60), .val (.ref b112), .unset, .unset, .unset] [])) t := by
      intro t kt
      show Steps p.tables e below (T120.setTop (mkF m 114 #[.val (.long l1), .second, .val (.int w1), .val (.int n1), .val (.int a1), .val (.int t1), .val (.ref b15), .val (.int (2 : Int32)), .val (.int v51), .val (.int v54), .val (.int v57), .val (.int v60), .val (.ref b112), .unset, .unset, .unset] [])) _
      refine XS.iload X120.here hx rfl (hb hby at_114) rfl ?_
      show Steps p.tables e below (T120.setTop (mkF m 116 #[.val (.long l1), .second, .val (.int w1), .val (.int n1), .val (.int a1), .val (.int t1), .val (.ref b15), .val (.int (2 : Int32)), .val (.int v51), .val (.int v54), .val (.int v57), .val (.int v60), .val (.ref b112), .unset, .unset, .unset] [(.int (2 : Int32))])) _
      refine XS.iconst X120.here hx rfl (hb hby at_116) ?_
      show Steps p.tables e below (T120.setTop (mkF m 117 #[.val (.long l1), .second, .val (.int w1), .val (.int n1), .val (.int a1), .val (.int t1), .val (.ref b15), .val (.int (2 : Int32)), .val (.int v51), .val (.int v54), .val (.int v57), .val (.int v60), .val (.ref b112), .unset, .unset, .unset] [(.int (2 : Int32)), (.int (2 : Int32))])) _
      refine XS.icmpYes X120.here hx rfl (pc0 := 117) (pc' := 126) rfl (hb hby at_117) rfl (flt (by decide)).2.2.2 (by decide) (by decide) ?_
      show Steps p.tables e below (T120.setTop (mkF m 126 #[.val (.long l1), .second, .val (.int w1), .val (.int n1), .val (.int a1), .val (.int t1), .val (.ref b15), .val (.int (2 : Int32)), .val (.int v51), .val (.int v54), .val (.int v57), .val (.int v60), .val (.ref b112), .unset, .unset, .unset] [])) _
      refine XS.iload X120.here hx rfl (hb hby at_126) rfl ?_
      show Steps p.tables e below (T120.setTop (mkF m 128 #[.val (.long l1), .second, .val (.int w1), .val (.int n1), .val (.int a1), .val (.int t1), .val (.ref b15), .val (.int (2 : Int32)), .val (.int v51), .val (.int v54), .val (.int v57), .val (.int v60), .val (.ref b112), .unset, .unset, .unset] [(.int (2 : Int32))])) _
      refine XS.iconst X120.here hx rfl (hb hby at_128) ?_
      show Steps p.tables e below (T120.setTop (mkF m 129 #[.val (.long l1), .second, .val (.int w1), .val (.int n1), .val (.int a1), .val (.int t1), .val (.ref b15), .val (.int (2 : Int32)), .val (.int v51), .val (.int v54), .val (.int v57), .val (.int v60), .val (.ref b112), .unset, .unset, .unset] [(.int (3 : Int32)), (.int (2 : Int32))])) _
      refine XS.icmpYes X120.here hx rfl (pc0 := 129) (pc' := 138) rfl (hb hby at_129) rfl (flt (by decide)).2.2.2 (by decide) (by decide) ?_
      show Steps p.tables e below (T120.setTop (mkF m 138 #[.val (.long l1), .second, .val (.int w1), .val (.int n1), .val (.int a1), .val (.int t1), .val (.ref b15), .val (.int (2 : Int32)), .val (.int v51), .val (.int v54), .val (.int v57), .val (.int v60), .val (.ref b112), .unset, .unset, .unset] [])) _
      refine XS.iload X120.here hx rfl (hb hby at_138) rfl ?_
      show Steps p.tables e below (T120.setTop (mkF m 140 #[.val (.long l1), .second, .val (.int w1), .val (.int n1), .val (.int a1), .val (.int t1), .val (.ref b15), .val (.int (2 : Int32)), .val (.int v51), .val (.int v54), .val (.int v57), .val (.int v60), .val (.ref b112), .unset, .unset, .unset] [(.int a1)])) _
      refine XS.bipush X120.here hx rfl (hb hby at_140) ?_
      show Steps p.tables e below (T120.setTop (mkF m 142 #[.val (.long l1), .second, .val (.int w1), .val (.int n1), .val (.int a1), .val (.int t1), .val (.ref b15), .val (.int (2 : Int32)), .val (.int v51), .val (.int v54), .val (.int v57), .val (.int v60), .val (.ref b112), .unset, .unset, .unset] [(.int (7 : Int32)), (.int a1)])) _
      refine XS.iand X120.here hx rfl (hb hby at_142) rfl ?_
      show Steps p.tables e below (T120.setTop (mkF m 143 #[.val (.long l1), .second, .val (.int w1), .val (.int n1), .val (.int a1), .val (.int t1), .val (.ref b15), .val (.int (2 : Int32)), .val (.int v51), .val (.int v54), .val (.int v57), .val (.int v60), .val (.ref b112), .unset, .unset, .unset] [(.int (a1 &&& (7 : Int32)))])) _
      refine XS.bipush X120.here hx rfl (hb hby at_143) ?_
      show Steps p.tables e below (T120.setTop (mkF m 145 #[.val (.long l1), .second, .val (.int w1), .val (.int n1), .val (.int a1), .val (.int t1), .val (.ref b15), .val (.int (2 : Int32)), .val (.int v51), .val (.int v54), .val (.int v57), .val (.int v60), .val (.ref b112), .unset, .unset, .unset] [(.int (6 : Int32)), (.int (a1 &&& (7 : Int32)))])) _
      refine iremM X120 hx rfl (hb hby at_145) rfl (by decide) ?_
      exact kt
    obtain ⟨v123, hv123⟩ : ∃ z : Int32, z = ((a1 &&& (7 : Int32)) % (6 : Int32)) := ⟨_, rfl⟩
    have S125 : ∀ t, Steps p.tables e below (T120.setTop (mkF m 146 #[.val (.long l1), .second, .val (.int w1), .val (.int n1), .val (.int a1), .val (.int t1), .val (.ref b15), .val (.int (2 : Int32)), .val (.int v51), .val (.int v54), .val (.int v57), .val (.int v60), .val (.ref b112), .unset, .unset, .unset] [(.int v123)])) t → Steps p.tables e below (T120.setTop (mkF m 146 #[.val (.long l1), .second, .val (.int w1), .val (.int n1), .val (.int a1), .val (.int t1), .val (.ref b15), .val (.int (2 : Int32)), .val (.int v51), .val (.int v54), .val (.int v57), .val (.int v60), .val (.ref b112), .unset, .unset, .unset] [(.int ((a1 &&& (7 : Int32)) % (6 : Int32)))])) t := fun t k => by rw [hv123.symm]; exact k
    obtain ⟨an, hat, han⟩ := own_at_in _ _ hv123
    have S127 : ∀ t, Steps p.tables e below (T120.setTop (mkF m 162 #[.val (.long l1), .second, .val (.int w1), .val (.int n1), .val (.int a1), .val (.int t1), .val (.ref b15), .val (.int (2 : Int32)), .val (.int v51), .val (.int v54), .val (.int v57), .val (.int v60), .val (.ref b112), .val (.int v123), .unset, .unset] [(.int (v123 + ((t1 &&& (2147483647 : Int32)) % ((6 : Int32) - v123))))])) t → Steps p.tables e below (T120.setTop (mkF m 146 #[.val (.long l1), .second, .val (.int w1), .val (.int n1), .val (.int a1), .val (.int t1), .val (.ref b15), .val (.int (2 : Int32)), .val (.int v51), .val (.int v54), .val (.int v57), .val (.int v60), .val (.ref b112), .unset, .unset, .unset] [(.int v123)])) t := by
      intro t kt
      show Steps p.tables e below (T120.setTop (mkF m 146 #[.val (.long l1), .second, .val (.int w1), .val (.int n1), .val (.int a1), .val (.int t1), .val (.ref b15), .val (.int (2 : Int32)), .val (.int v51), .val (.int v54), .val (.int v57), .val (.int v60), .val (.ref b112), .unset, .unset, .unset] [(.int v123)])) _
      refine XS.istore X120.here hx rfl (hb hby at_146) rfl (l' := #[.val (.long l1), .second, .val (.int w1), .val (.int n1), .val (.int a1), .val (.int t1), .val (.ref b15), .val (.int (2 : Int32)), .val (.int v51), .val (.int v54), .val (.int v57), .val (.int v60), .val (.ref b112), .val (.int v123), .unset, .unset]) rfl ?_
      show Steps p.tables e below (T120.setTop (mkF m 148 #[.val (.long l1), .second, .val (.int w1), .val (.int n1), .val (.int a1), .val (.int t1), .val (.ref b15), .val (.int (2 : Int32)), .val (.int v51), .val (.int v54), .val (.int v57), .val (.int v60), .val (.ref b112), .val (.int v123), .unset, .unset] [])) _
      refine XS.iload X120.here hx rfl (hb hby at_148) rfl ?_
      show Steps p.tables e below (T120.setTop (mkF m 150 #[.val (.long l1), .second, .val (.int w1), .val (.int n1), .val (.int a1), .val (.int t1), .val (.ref b15), .val (.int (2 : Int32)), .val (.int v51), .val (.int v54), .val (.int v57), .val (.int v60), .val (.ref b112), .val (.int v123), .unset, .unset] [(.int v123)])) _
      refine XS.iload X120.here hx rfl (hb hby at_150) rfl ?_
      show Steps p.tables e below (T120.setTop (mkF m 152 #[.val (.long l1), .second, .val (.int w1), .val (.int n1), .val (.int a1), .val (.int t1), .val (.ref b15), .val (.int (2 : Int32)), .val (.int v51), .val (.int v54), .val (.int v57), .val (.int v60), .val (.ref b112), .val (.int v123), .unset, .unset] [(.int t1), (.int v123)])) _
      refine X120.ldcInt hx hown (mvT hZ (hw _ (List.mem_of_getElem? (i := 1) rfl))) (g := (mkF m 152 #[.val (.long l1), .second, .val (.int w1), .val (.int n1), .val (.int a1), .val (.int t1), .val (.ref b15), .val (.int (2 : Int32)), .val (.int v51), .val (.int v54), .val (.int v57), .val (.int v60), .val (.ref b112), .val (.int v123), .unset, .unset] [(.int t1), (.int v123)])) rfl (hb hby at_152) _ ?_
      show Steps p.tables e below (T120.setTop (mkF m 154 #[.val (.long l1), .second, .val (.int w1), .val (.int n1), .val (.int a1), .val (.int t1), .val (.ref b15), .val (.int (2 : Int32)), .val (.int v51), .val (.int v54), .val (.int v57), .val (.int v60), .val (.ref b112), .val (.int v123), .unset, .unset] [(.int (2147483647 : Int32)), (.int t1), (.int v123)])) _
      refine XS.iand X120.here hx rfl (hb hby at_154) rfl ?_
      show Steps p.tables e below (T120.setTop (mkF m 155 #[.val (.long l1), .second, .val (.int w1), .val (.int n1), .val (.int a1), .val (.int t1), .val (.ref b15), .val (.int (2 : Int32)), .val (.int v51), .val (.int v54), .val (.int v57), .val (.int v60), .val (.ref b112), .val (.int v123), .unset, .unset] [(.int (t1 &&& (2147483647 : Int32))), (.int v123)])) _
      refine XS.bipush X120.here hx rfl (hb hby at_155) ?_
      show Steps p.tables e below (T120.setTop (mkF m 157 #[.val (.long l1), .second, .val (.int w1), .val (.int n1), .val (.int a1), .val (.int t1), .val (.ref b15), .val (.int (2 : Int32)), .val (.int v51), .val (.int v54), .val (.int v57), .val (.int v60), .val (.ref b112), .val (.int v123), .unset, .unset] [(.int (6 : Int32)), (.int (t1 &&& (2147483647 : Int32))), (.int v123)])) _
      refine XS.iload X120.here hx rfl (hb hby at_157) rfl ?_
      show Steps p.tables e below (T120.setTop (mkF m 159 #[.val (.long l1), .second, .val (.int w1), .val (.int n1), .val (.int a1), .val (.int t1), .val (.ref b15), .val (.int (2 : Int32)), .val (.int v51), .val (.int v54), .val (.int v57), .val (.int v60), .val (.ref b112), .val (.int v123), .unset, .unset] [(.int v123), (.int (6 : Int32)), (.int (t1 &&& (2147483647 : Int32))), (.int v123)])) _
      refine XS.isub X120.here hx rfl (hb hby at_159) rfl ?_
      show Steps p.tables e below (T120.setTop (mkF m 160 #[.val (.long l1), .second, .val (.int w1), .val (.int n1), .val (.int a1), .val (.int t1), .val (.ref b15), .val (.int (2 : Int32)), .val (.int v51), .val (.int v54), .val (.int v57), .val (.int v60), .val (.ref b112), .val (.int v123), .unset, .unset] [(.int ((6 : Int32) - v123)), (.int (t1 &&& (2147483647 : Int32))), (.int v123)])) _
      refine iremM X120 hx rfl (hb hby at_160) rfl (own_six_ne hat han) ?_
      show Steps p.tables e below (T120.setTop (mkF m 161 #[.val (.long l1), .second, .val (.int w1), .val (.int n1), .val (.int a1), .val (.int t1), .val (.ref b15), .val (.int (2 : Int32)), .val (.int v51), .val (.int v54), .val (.int v57), .val (.int v60), .val (.ref b112), .val (.int v123), .unset, .unset] [(.int ((t1 &&& (2147483647 : Int32)) % ((6 : Int32) - v123))), (.int v123)])) _
      refine XS.iadd X120.here hx rfl (hb hby at_161) rfl ?_
      exact kt
    obtain ⟨v126, hv126⟩ : ∃ z : Int32, z = (v123 + ((t1 &&& (2147483647 : Int32)) % ((6 : Int32) - v123))) := ⟨_, rfl⟩
    have S128 : ∀ t, Steps p.tables e below (T120.setTop (mkF m 162 #[.val (.long l1), .second, .val (.int w1), .val (.int n1), .val (.int a1), .val (.int t1), .val (.ref b15), .val (.int (2 : Int32)), .val (.int v51), .val (.int v54), .val (.int v57), .val (.int v60), .val (.ref b112), .val (.int v123), .unset, .unset] [(.int v126)])) t → Steps p.tables e below (T120.setTop (mkF m 162 #[.val (.long l1), .second, .val (.int w1), .val (.int n1), .val (.int a1), .val (.int t1), .val (.ref b15), .val (.int (2 : Int32)), .val (.int v51), .val (.int v54), .val (.int v57), .val (.int v60), .val (.ref b112), .val (.int v123), .unset, .unset] [(.int (v123 + ((t1 &&& (2147483647 : Int32)) % ((6 : Int32) - v123))))])) t := fun t k => by rw [hv126.symm]; exact k
    obtain ⟨tn, hto, hle, htn, hdd⟩ := own_to_in _ _ _ hat han hv126
    have f129 := (((V45'.ext E112).other W116 ne_b15_b112).other W120 ne_b15_b112)
    have S130 : ∀ t, Steps p.tables e below (T120.setTop (mkF m 171 #[.val (.long l1), .second, .val (.int w1), .val (.int n1), .val (.int a1), .val (.int t1), .val (.ref b15), .val (.int (2 : Int32)), .val (.int v51), .val (.int v54), .val (.int v57), .val (.int v60), .val (.ref b112), .val (.int v123), .val (.int v126), .unset] [(.int (v126 - v123)), (.int (2 : Int32))])) t → Steps p.tables e below (T120.setTop (mkF m 162 #[.val (.long l1), .second, .val (.int w1), .val (.int n1), .val (.int a1), .val (.int t1), .val (.ref b15), .val (.int (2 : Int32)), .val (.int v51), .val (.int v54), .val (.int v57), .val (.int v60), .val (.ref b112), .val (.int v123), .unset, .unset] [(.int v126)])) t := by
      intro t kt
      show Steps p.tables e below (T120.setTop (mkF m 162 #[.val (.long l1), .second, .val (.int w1), .val (.int n1), .val (.int a1), .val (.int t1), .val (.ref b15), .val (.int (2 : Int32)), .val (.int v51), .val (.int v54), .val (.int v57), .val (.int v60), .val (.ref b112), .val (.int v123), .unset, .unset] [(.int v126)])) _
      refine XS.istore X120.here hx rfl (hb hby at_162) rfl (l' := #[.val (.long l1), .second, .val (.int w1), .val (.int n1), .val (.int a1), .val (.int t1), .val (.ref b15), .val (.int (2 : Int32)), .val (.int v51), .val (.int v54), .val (.int v57), .val (.int v60), .val (.ref b112), .val (.int v123), .val (.int v126), .unset]) rfl ?_
      show Steps p.tables e below (T120.setTop (mkF m 164 #[.val (.long l1), .second, .val (.int w1), .val (.int n1), .val (.int a1), .val (.int t1), .val (.ref b15), .val (.int (2 : Int32)), .val (.int v51), .val (.int v54), .val (.int v57), .val (.int v60), .val (.ref b112), .val (.int v123), .val (.int v126), .unset] [])) _
      refine XS.iload X120.here hx rfl (hb hby at_164) rfl ?_
      show Steps p.tables e below (T120.setTop (mkF m 166 #[.val (.long l1), .second, .val (.int w1), .val (.int n1), .val (.int a1), .val (.int t1), .val (.ref b15), .val (.int (2 : Int32)), .val (.int v51), .val (.int v54), .val (.int v57), .val (.int v60), .val (.ref b112), .val (.int v123), .val (.int v126), .unset] [(.int (2 : Int32))])) _
      refine XS.iload X120.here hx rfl (hb hby at_166) rfl ?_
      show Steps p.tables e below (T120.setTop (mkF m 168 #[.val (.long l1), .second, .val (.int w1), .val (.int n1), .val (.int a1), .val (.int t1), .val (.ref b15), .val (.int (2 : Int32)), .val (.int v51), .val (.int v54), .val (.int v57), .val (.int v60), .val (.ref b112), .val (.int v123), .val (.int v126), .unset] [(.int v126), (.int (2 : Int32))])) _
      refine XS.iload X120.here hx rfl (hb hby at_168) rfl ?_
      show Steps p.tables e below (T120.setTop (mkF m 170 #[.val (.long l1), .second, .val (.int w1), .val (.int n1), .val (.int a1), .val (.int t1), .val (.ref b15), .val (.int (2 : Int32)), .val (.int v51), .val (.int v54), .val (.int v57), .val (.int v60), .val (.ref b112), .val (.int v123), .val (.int v126), .unset] [(.int v123), (.int v126), (.int (2 : Int32))])) _
      refine XS.isub X120.here hx rfl (hb hby at_170) rfl ?_
      exact kt
    obtain ⟨v135, hv135⟩ : ∃ z : Int32, z = (if (v126 - v123) < (2 : Int32) then (0 : Int32) else (if (own_l5 v18 v24 v30 v36 v42 an) = v51 then (if (own_l5 v18 v24 v30 v36 v42 (an + 1)) = v54 then (1 : Int32) else (0 : Int32)) else (0 : Int32))) := ⟨_, rfl⟩
    have S134 : ∀ t, Steps p.tables e below (T120.setTop (mkF m 249 #[.val (.long l1), .second, .val (.int w1), .val (.int n1), .val (.int a1), .val (.int t1), .val (.ref b15), .val (.int (2 : Int32)), .val (.int v51), .val (.int v54), .val (.int v57), .val (.int v60), .val (.ref b112), .val (.int v123), .val (.int v126), .unset] [(.int v135)])) t → Steps p.tables e below (T120.setTop (mkF m 171 #[.val (.long l1), .second, .val (.int w1), .val (.int n1), .val (.int a1), .val (.int t1), .val (.ref b15), .val (.int (2 : Int32)), .val (.int v51), .val (.int v54), .val (.int v57), .val (.int v60), .val (.ref b112), .val (.int v123), .val (.int v126), .unset] [(.int (v126 - v123)), (.int (2 : Int32))])) t := by
      intro t kt
      subst hv135
      by_cases hc131 : (v126 - v123) < (2 : Int32)
      · simp only [if_pos hc131] at kt
        show Steps p.tables e below (T120.setTop (mkF m 171 #[.val (.long l1), .second, .val (.int w1), .val (.int n1), .val (.int a1), .val (.int t1), .val (.ref b15), .val (.int (2 : Int32)), .val (.int v51), .val (.int v54), .val (.int v57), .val (.int v60), .val (.ref b112), .val (.int v123), .val (.int v126), .unset] [(.int (v126 - v123)), (.int (2 : Int32))])) _
        refine XS.icmpYes X120.here hx rfl (pc0 := 171) (pc' := 248) rfl (hb hby at_171) rfl (tlt hc131).2.2.1 (by decide) (by decide) ?_
        show Steps p.tables e below (T120.setTop (mkF m 248 #[.val (.long l1), .second, .val (.int w1), .val (.int n1), .val (.int a1), .val (.int t1), .val (.ref b15), .val (.int (2 : Int32)), .val (.int v51), .val (.int v54), .val (.int v57), .val (.int v60), .val (.ref b112), .val (.int v123), .val (.int v126), .unset] [])) _
        refine XS.iconst X120.here hx rfl (hb hby at_248) ?_
        exact kt
      · by_cases hc132 : (own_l5 v18 v24 v30 v36 v42 an) = v51
        · by_cases hc133 : (own_l5 v18 v24 v30 v36 v42 (an + 1)) = v54
          · simp only [if_neg hc131, if_pos hc132, if_pos hc133] at kt
            show Steps p.tables e below (T120.setTop (mkF m 171 #[.val (.long l1), .second, .val (.int w1), .val (.int n1), .val (.int a1), .val (.int t1), .val (.ref b15), .val (.int (2 : Int32)), .val (.int v51), .val (.int v54), .val (.int v57), .val (.int v60), .val (.ref b112), .val (.int v123), .val (.int v126), .unset] [(.int (v126 - v123)), (.int (2 : Int32))])) _
            refine XS.icmpNo X120.here hx rfl (hb hby at_171) rfl (flt hc131).2.2.1 ?_
            show Steps p.tables e below (T120.setTop (mkF m 174 #[.val (.long l1), .second, .val (.int w1), .val (.int n1), .val (.int a1), .val (.int t1), .val (.ref b15), .val (.int (2 : Int32)), .val (.int v51), .val (.int v54), .val (.int v57), .val (.int v60), .val (.ref b112), .val (.int v123), .val (.int v126), .unset] [])) _
            refine XS.iload X120.here hx rfl (hb hby at_174) rfl ?_
            show Steps p.tables e below (T120.setTop (mkF m 176 #[.val (.long l1), .second, .val (.int w1), .val (.int n1), .val (.int a1), .val (.int t1), .val (.ref b15), .val (.int (2 : Int32)), .val (.int v51), .val (.int v54), .val (.int v57), .val (.int v60), .val (.ref b112), .val (.int v123), .val (.int v126), .unset] [(.int (2 : Int32))])) _
            refine XS.iconst X120.here hx rfl (hb hby at_176) ?_
            show Steps p.tables e below (T120.setTop (mkF m 177 #[.val (.long l1), .second, .val (.int w1), .val (.int n1), .val (.int a1), .val (.int t1), .val (.ref b15), .val (.int (2 : Int32)), .val (.int v51), .val (.int v54), .val (.int v57), .val (.int v60), .val (.ref b112), .val (.int v123), .val (.int v126), .unset] [(.int (1 : Int32)), (.int (2 : Int32))])) _
            refine XS.icmpNo X120.here hx rfl (hb hby at_177) rfl (flt (by decide)).1 ?_
            show Steps p.tables e below (T120.setTop (mkF m 180 #[.val (.long l1), .second, .val (.int w1), .val (.int n1), .val (.int a1), .val (.int t1), .val (.ref b15), .val (.int (2 : Int32)), .val (.int v51), .val (.int v54), .val (.int v57), .val (.int v60), .val (.ref b112), .val (.int v123), .val (.int v126), .unset] [])) _
            refine XS.aload X120.here hx rfl (hb hby at_180) rfl rfl ?_
            show Steps p.tables e below (T120.setTop (mkF m 182 #[.val (.long l1), .second, .val (.int w1), .val (.int n1), .val (.int a1), .val (.int t1), .val (.ref b15), .val (.int (2 : Int32)), .val (.int v51), .val (.int v54), .val (.int v57), .val (.int v60), .val (.ref b112), .val (.int v123), .val (.int v126), .unset] [(.ref b15)])) _
            refine XS.iload X120.here hx rfl (hb hby at_182) rfl ?_
            show Steps p.tables e below (T120.setTop (mkF m 184 #[.val (.long l1), .second, .val (.int w1), .val (.int n1), .val (.int a1), .val (.int t1), .val (.ref b15), .val (.int (2 : Int32)), .val (.int v51), .val (.int v54), .val (.int v57), .val (.int v60), .val (.ref b112), .val (.int v123), .val (.int v126), .unset] [(.int v123), (.ref b15)])) _
            refine ArF.ldB X120 hx hZ e120 f129 (i := an) hat (by have := (own_bd hdd htn (k := 2) (by decide) hc131); omega) (v := (own_l5 v18 v24 v30 v36 v42 an)) rfl (g := (mkF m 184 #[.val (.long l1), .second, .val (.int w1), .val (.int n1), .val (.int a1), .val (.int t1), .val (.ref b15), .val (.int (2 : Int32)), .val (.int v51), .val (.int v54), .val (.int v57), .val (.int v60), .val (.ref b112), .val (.int v123), .val (.int v126), .unset] [(.int v123), (.ref b15)])) rfl rfl (hb hby at_184) _ ?_
            show Steps p.tables e below (T120.setTop (mkF m 185 #[.val (.long l1), .second, .val (.int w1), .val (.int n1), .val (.int a1), .val (.int t1), .val (.ref b15), .val (.int (2 : Int32)), .val (.int v51), .val (.int v54), .val (.int v57), .val (.int v60), .val (.ref b112), .val (.int v123), .val (.int v126), .unset] [(.int (own_l5 v18 v24 v30 v36 v42 an))])) _
            refine XS.iload X120.here hx rfl (hb hby at_185) rfl ?_
            show Steps p.tables e below (T120.setTop (mkF m 187 #[.val (.long l1), .second, .val (.int w1), .val (.int n1), .val (.int a1), .val (.int t1), .val (.ref b15), .val (.int (2 : Int32)), .val (.int v51), .val (.int v54), .val (.int v57), .val (.int v60), .val (.ref b112), .val (.int v123), .val (.int v126), .unset] [(.int v51), (.int (own_l5 v18 v24 v30 v36 v42 an))])) _
            refine XS.icmpNo X120.here hx rfl (hb hby at_187) rfl (teq hc132).2 ?_
            show Steps p.tables e below (T120.setTop (mkF m 190 #[.val (.long l1), .second, .val (.int w1), .val (.int n1), .val (.int a1), .val (.int t1), .val (.ref b15), .val (.int (2 : Int32)), .val (.int v51), .val (.int v54), .val (.int v57), .val (.int v60), .val (.ref b112), .val (.int v123), .val (.int v126), .unset] [])) _
            refine XS.iload X120.here hx rfl (hb hby at_190) rfl ?_
            show Steps p.tables e below (T120.setTop (mkF m 192 #[.val (.long l1), .second, .val (.int w1), .val (.int n1), .val (.int a1), .val (.int t1), .val (.ref b15), .val (.int (2 : Int32)), .val (.int v51), .val (.int v54), .val (.int v57), .val (.int v60), .val (.ref b112), .val (.int v123), .val (.int v126), .unset] [(.int (2 : Int32))])) _
            refine XS.iconst X120.here hx rfl (hb hby at_192) ?_
            show Steps p.tables e below (T120.setTop (mkF m 193 #[.val (.long l1), .second, .val (.int w1), .val (.int n1), .val (.int a1), .val (.int t1), .val (.ref b15), .val (.int (2 : Int32)), .val (.int v51), .val (.int v54), .val (.int v57), .val (.int v60), .val (.ref b112), .val (.int v123), .val (.int v126), .unset] [(.int (2 : Int32)), (.int (2 : Int32))])) _
            refine XS.icmpNo X120.here hx rfl (hb hby at_193) rfl (flt (by decide)).1 ?_
            show Steps p.tables e below (T120.setTop (mkF m 196 #[.val (.long l1), .second, .val (.int w1), .val (.int n1), .val (.int a1), .val (.int t1), .val (.ref b15), .val (.int (2 : Int32)), .val (.int v51), .val (.int v54), .val (.int v57), .val (.int v60), .val (.ref b112), .val (.int v123), .val (.int v126), .unset] [])) _
            refine XS.aload X120.here hx rfl (hb hby at_196) rfl rfl ?_
            show Steps p.tables e below (T120.setTop (mkF m 198 #[.val (.long l1), .second, .val (.int w1), .val (.int n1), .val (.int a1), .val (.int t1), .val (.ref b15), .val (.int (2 : Int32)), .val (.int v51), .val (.int v54), .val (.int v57), .val (.int v60), .val (.ref b112), .val (.int v123), .val (.int v126), .unset] [(.ref b15)])) _
            refine XS.iload X120.here hx rfl (hb hby at_198) rfl ?_
            show Steps p.tables e below (T120.setTop (mkF m 200 #[.val (.long l1), .second, .val (.int w1), .val (.int n1), .val (.int a1), .val (.int t1), .val (.ref b15), .val (.int (2 : Int32)), .val (.int v51), .val (.int v54), .val (.int v57), .val (.int v60), .val (.ref b112), .val (.int v123), .val (.int v126), .unset] [(.int v123), (.ref b15)])) _
            refine XS.iconst X120.here hx rfl (hb hby at_200) ?_
            show Steps p.tables e below (T120.setTop (mkF m 201 #[.val (.long l1), .second, .val (.int w1), .val (.int n1), .val (.int a1), .val (.int t1), .val (.ref b15), .val (.int (2 : Int32)), .val (.int v51), .val (.int v54), .val (.int v57), .val (.int v60), .val (.ref b112), .val (.int v123), .val (.int v126), .unset] [(.int (1 : Int32)), (.int v123), (.ref b15)])) _
            refine XS.iadd X120.here hx rfl (hb hby at_201) rfl ?_
            show Steps p.tables e below (T120.setTop (mkF m 202 #[.val (.long l1), .second, .val (.int w1), .val (.int n1), .val (.int a1), .val (.int t1), .val (.ref b15), .val (.int (2 : Int32)), .val (.int v51), .val (.int v54), .val (.int v57), .val (.int v60), .val (.ref b112), .val (.int v123), .val (.int v126), .unset] [(.int (v123 + (1 : Int32))), (.ref b15)])) _
            refine ArF.ldB X120 hx hZ e120 f129 (i := (an + 1)) (own_plus hat (by omega) (i := 1) (by decide) (by omega)) (by have := (own_bd hdd htn (k := 2) (by decide) hc131); omega) (v := (own_l5 v18 v24 v30 v36 v42 (an + 1))) rfl (g := (mkF m 202 #[.val (.long l1), .second, .val (.int w1), .val (.int n1), .val (.int a1), .val (.int t1), .val (.ref b15), .val (.int (2 : Int32)), .val (.int v51), .val (.int v54), .val (.int v57), .val (.int v60), .val (.ref b112), .val (.int v123), .val (.int v126), .unset] [(.int (v123 + (1 : Int32))), (.ref b15)])) rfl rfl (hb hby at_202) _ ?_
            show Steps p.tables e below (T120.setTop (mkF m 203 #[.val (.long l1), .second, .val (.int w1), .val (.int n1), .val (.int a1), .val (.int t1), .val (.ref b15), .val (.int (2 : Int32)), .val (.int v51), .val (.int v54), .val (.int v57), .val (.int v60), .val (.ref b112), .val (.int v123), .val (.int v126), .unset] [(.int (own_l5 v18 v24 v30 v36 v42 (an + 1)))])) _
            refine XS.iload X120.here hx rfl (hb hby at_203) rfl ?_
            show Steps p.tables e below (T120.setTop (mkF m 205 #[.val (.long l1), .second, .val (.int w1), .val (.int n1), .val (.int a1), .val (.int t1), .val (.ref b15), .val (.int (2 : Int32)), .val (.int v51), .val (.int v54), .val (.int v57), .val (.int v60), .val (.ref b112), .val (.int v123), .val (.int v126), .unset] [(.int v54), (.int (own_l5 v18 v24 v30 v36 v42 (an + 1)))])) _
            refine XS.icmpNo X120.here hx rfl (hb hby at_205) rfl (teq hc133).2 ?_
            show Steps p.tables e below (T120.setTop (mkF m 208 #[.val (.long l1), .second, .val (.int w1), .val (.int n1), .val (.int a1), .val (.int t1), .val (.ref b15), .val (.int (2 : Int32)), .val (.int v51), .val (.int v54), .val (.int v57), .val (.int v60), .val (.ref b112), .val (.int v123), .val (.int v126), .unset] [])) _
            refine XS.iload X120.here hx rfl (hb hby at_208) rfl ?_
            show Steps p.tables e below (T120.setTop (mkF m 210 #[.val (.long l1), .second, .val (.int w1), .val (.int n1), .val (.int a1), .val (.int t1), .val (.ref b15), .val (.int (2 : Int32)), .val (.int v51), .val (.int v54), .val (.int v57), .val (.int v60), .val (.ref b112), .val (.int v123), .val (.int v126), .unset] [(.int (2 : Int32))])) _
            refine XS.iconst X120.here hx rfl (hb hby at_210) ?_
            show Steps p.tables e below (T120.setTop (mkF m 211 #[.val (.long l1), .second, .val (.int w1), .val (.int n1), .val (.int a1), .val (.int t1), .val (.ref b15), .val (.int (2 : Int32)), .val (.int v51), .val (.int v54), .val (.int v57), .val (.int v60), .val (.ref b112), .val (.int v123), .val (.int v126), .unset] [(.int (3 : Int32)), (.int (2 : Int32))])) _
            refine XS.icmpYes X120.here hx rfl (pc0 := 211) (pc' := 226) rfl (hb hby at_211) rfl (tlt (by decide)).1 (by decide) (by decide) ?_
            show Steps p.tables e below (T120.setTop (mkF m 226 #[.val (.long l1), .second, .val (.int w1), .val (.int n1), .val (.int a1), .val (.int t1), .val (.ref b15), .val (.int (2 : Int32)), .val (.int v51), .val (.int v54), .val (.int v57), .val (.int v60), .val (.ref b112), .val (.int v123), .val (.int v126), .unset] [])) _
            refine XS.iload X120.here hx rfl (hb hby at_226) rfl ?_
            show Steps p.tables e below (T120.setTop (mkF m 228 #[.val (.long l1), .second, .val (.int w1), .val (.int n1), .val (.int a1), .val (.int t1), .val (.ref b15), .val (.int (2 : Int32)), .val (.int v51), .val (.int v54), .val (.int v57), .val (.int v60), .val (.ref b112), .val (.int v123), .val (.int v126), .unset] [(.int (2 : Int32))])) _
            refine XS.iconst X120.here hx rfl (hb hby at_228) ?_
            show Steps p.tables e below (T120.setTop (mkF m 229 #[.val (.long l1), .second, .val (.int w1), .val (.int n1), .val (.int a1), .val (.int t1), .val (.ref b15), .val (.int (2 : Int32)), .val (.int v51), .val (.int v54), .val (.int v57), .val (.int v60), .val (.ref b112), .val (.int v123), .val (.int v126), .unset] [(.int (4 : Int32)), (.int (2 : Int32))])) _
            refine XS.icmpYes X120.here hx rfl (pc0 := 229) (pc' := 244) rfl (hb hby at_229) rfl (tlt (by decide)).1 (by decide) (by decide) ?_
            show Steps p.tables e below (T120.setTop (mkF m 244 #[.val (.long l1), .second, .val (.int w1), .val (.int n1), .val (.int a1), .val (.int t1), .val (.ref b15), .val (.int (2 : Int32)), .val (.int v51), .val (.int v54), .val (.int v57), .val (.int v60), .val (.ref b112), .val (.int v123), .val (.int v126), .unset] [])) _
            refine XS.iconst X120.here hx rfl (hb hby at_244) ?_
            show Steps p.tables e below (T120.setTop (mkF m 245 #[.val (.long l1), .second, .val (.int w1), .val (.int n1), .val (.int a1), .val (.int t1), .val (.ref b15), .val (.int (2 : Int32)), .val (.int v51), .val (.int v54), .val (.int v57), .val (.int v60), .val (.ref b112), .val (.int v123), .val (.int v126), .unset] [(.int (1 : Int32))])) _
            refine XS.goto X120.here hx rfl (pc0 := 245) (pc' := 249) rfl (hb hby at_245) (by decide) (by decide) ?_
            exact kt
          · simp only [if_neg hc131, if_pos hc132, if_neg hc133] at kt
            show Steps p.tables e below (T120.setTop (mkF m 171 #[.val (.long l1), .second, .val (.int w1), .val (.int n1), .val (.int a1), .val (.int t1), .val (.ref b15), .val (.int (2 : Int32)), .val (.int v51), .val (.int v54), .val (.int v57), .val (.int v60), .val (.ref b112), .val (.int v123), .val (.int v126), .unset] [(.int (v126 - v123)), (.int (2 : Int32))])) _
            refine XS.icmpNo X120.here hx rfl (hb hby at_171) rfl (flt hc131).2.2.1 ?_
            show Steps p.tables e below (T120.setTop (mkF m 174 #[.val (.long l1), .second, .val (.int w1), .val (.int n1), .val (.int a1), .val (.int t1), .val (.ref b15), .val (.int (2 : Int32)), .val (.int v51), .val (.int v54), .val (.int v57), .val (.int v60), .val (.ref b112), .val (.int v123), .val (.int v126), .unset] [])) _
            refine XS.iload X120.here hx rfl (hb hby at_174) rfl ?_
            show Steps p.tables e below (T120.setTop (mkF m 176 #[.val (.long l1), .second, .val (.int w1), .val (.int n1), .val (.int a1), .val (.int t1), .val (.ref b15), .val (.int (2 : Int32)), .val (.int v51), .val (.int v54), .val (.int v57), .val (.int v60), .val (.ref b112), .val (.int v123), .val (.int v126), .unset] [(.int (2 : Int32))])) _
            refine XS.iconst X120.here hx rfl (hb hby at_176) ?_
            show Steps p.tables e below (T120.setTop (mkF m 177 #[.val (.long l1), .second, .val (.int w1), .val (.int n1), .val (.int a1), .val (.int t1), .val (.ref b15), .val (.int (2 : Int32)), .val (.int v51), .val (.int v54), .val (.int v57), .val (.int v60), .val (.ref b112), .val (.int v123), .val (.int v126), .unset] [(.int (1 : Int32)), (.int (2 : Int32))])) _
            refine XS.icmpNo X120.here hx rfl (hb hby at_177) rfl (flt (by decide)).1 ?_
            show Steps p.tables e below (T120.setTop (mkF m 180 #[.val (.long l1), .second, .val (.int w1), .val (.int n1), .val (.int a1), .val (.int t1), .val (.ref b15), .val (.int (2 : Int32)), .val (.int v51), .val (.int v54), .val (.int v57), .val (.int v60), .val (.ref b112), .val (.int v123), .val (.int v126), .unset] [])) _
            refine XS.aload X120.here hx rfl (hb hby at_180) rfl rfl ?_
            show Steps p.tables e below (T120.setTop (mkF m 182 #[.val (.long l1), .second, .val (.int w1), .val (.int n1), .val (.int a1), .val (.int t1), .val (.ref b15), .val (.int (2 : Int32)), .val (.int v51), .val (.int v54), .val (.int v57), .val (.int v60), .val (.ref b112), .val (.int v123), .val (.int v126), .unset] [(.ref b15)])) _
            refine XS.iload X120.here hx rfl (hb hby at_182) rfl ?_
            show Steps p.tables e below (T120.setTop (mkF m 184 #[.val (.long l1), .second, .val (.int w1), .val (.int n1), .val (.int a1), .val (.int t1), .val (.ref b15), .val (.int (2 : Int32)), .val (.int v51), .val (.int v54), .val (.int v57), .val (.int v60), .val (.ref b112), .val (.int v123), .val (.int v126), .unset] [(.int v123), (.ref b15)])) _
            refine ArF.ldB X120 hx hZ e120 f129 (i := an) hat (by have := (own_bd hdd htn (k := 2) (by decide) hc131); omega) (v := (own_l5 v18 v24 v30 v36 v42 an)) rfl (g := (mkF m 184 #[.val (.long l1), .second, .val (.int w1), .val (.int n1), .val (.int a1), .val (.int t1), .val (.ref b15), .val (.int (2 : Int32)), .val (.int v51), .val (.int v54), .val (.int v57), .val (.int v60), .val (.ref b112), .val (.int v123), .val (.int v126), .unset] [(.int v123), (.ref b15)])) rfl rfl (hb hby at_184) _ ?_
            show Steps p.tables e below (T120.setTop (mkF m 185 #[.val (.long l1), .second, .val (.int w1), .val (.int n1), .val (.int a1), .val (.int t1), .val (.ref b15), .val (.int (2 : Int32)), .val (.int v51), .val (.int v54), .val (.int v57), .val (.int v60), .val (.ref b112), .val (.int v123), .val (.int v126), .unset] [(.int (own_l5 v18 v24 v30 v36 v42 an))])) _
            refine XS.iload X120.here hx rfl (hb hby at_185) rfl ?_
            show Steps p.tables e below (T120.setTop (mkF m 187 #[.val (.long l1), .second, .val (.int w1), .val (.int n1), .val (.int a1), .val (.int t1), .val (.ref b15), .val (.int (2 : Int32)), .val (.int v51), .val (.int v54), .val (.int v57), .val (.int v60), .val (.ref b112), .val (.int v123), .val (.int v126), .unset] [(.int v51), (.int (own_l5 v18 v24 v30 v36 v42 an))])) _
            refine XS.icmpNo X120.here hx rfl (hb hby at_187) rfl (teq hc132).2 ?_
            show Steps p.tables e below (T120.setTop (mkF m 190 #[.val (.long l1), .second, .val (.int w1), .val (.int n1), .val (.int a1), .val (.int t1), .val (.ref b15), .val (.int (2 : Int32)), .val (.int v51), .val (.int v54), .val (.int v57), .val (.int v60), .val (.ref b112), .val (.int v123), .val (.int v126), .unset] [])) _
            refine XS.iload X120.here hx rfl (hb hby at_190) rfl ?_
            show Steps p.tables e below (T120.setTop (mkF m 192 #[.val (.long l1), .second, .val (.int w1), .val (.int n1), .val (.int a1), .val (.int t1), .val (.ref b15), .val (.int (2 : Int32)), .val (.int v51), .val (.int v54), .val (.int v57), .val (.int v60), .val (.ref b112), .val (.int v123), .val (.int v126), .unset] [(.int (2 : Int32))])) _
            refine XS.iconst X120.here hx rfl (hb hby at_192) ?_
            show Steps p.tables e below (T120.setTop (mkF m 193 #[.val (.long l1), .second, .val (.int w1), .val (.int n1), .val (.int a1), .val (.int t1), .val (.ref b15), .val (.int (2 : Int32)), .val (.int v51), .val (.int v54), .val (.int v57), .val (.int v60), .val (.ref b112), .val (.int v123), .val (.int v126), .unset] [(.int (2 : Int32)), (.int (2 : Int32))])) _
            refine XS.icmpNo X120.here hx rfl (hb hby at_193) rfl (flt (by decide)).1 ?_
            show Steps p.tables e below (T120.setTop (mkF m 196 #[.val (.long l1), .second, .val (.int w1), .val (.int n1), .val (.int a1), .val (.int t1), .val (.ref b15), .val (.int (2 : Int32)), .val (.int v51), .val (.int v54), .val (.int v57), .val (.int v60), .val (.ref b112), .val (.int v123), .val (.int v126), .unset] [])) _
            refine XS.aload X120.here hx rfl (hb hby at_196) rfl rfl ?_
            show Steps p.tables e below (T120.setTop (mkF m 198 #[.val (.long l1), .second, .val (.int w1), .val (.int n1), .val (.int a1), .val (.int t1), .val (.ref b15), .val (.int (2 : Int32)), .val (.int v51), .val (.int v54), .val (.int v57), .val (.int v60), .val (.ref b112), .val (.int v123), .val (.int v126), .unset] [(.ref b15)])) _
            refine XS.iload X120.here hx rfl (hb hby at_198) rfl ?_
            show Steps p.tables e below (T120.setTop (mkF m 200 #[.val (.long l1), .second, .val (.int w1), .val (.int n1), .val (.int a1), .val (.int t1), .val (.ref b15), .val (.int (2 : Int32)), .val (.int v51), .val (.int v54), .val (.int v57), .val (.int v60), .val (.ref b112), .val (.int v123), .val (.int v126), .unset] [(.int v123), (.ref b15)])) _
            refine XS.iconst X120.here hx rfl (hb hby at_200) ?_
            show Steps p.tables e below (T120.setTop (mkF m 201 #[.val (.long l1), .second, .val (.int w1), .val (.int n1), .val (.int a1), .val (.int t1), .val (.ref b15), .val (.int (2 : Int32)), .val (.int v51), .val (.int v54), .val (.int v57), .val (.int v60), .val (.ref b112), .val (.int v123), .val (.int v126), .unset] [(.int (1 : Int32)), (.int v123), (.ref b15)])) _
            refine XS.iadd X120.here hx rfl (hb hby at_201) rfl ?_
            show Steps p.tables e below (T120.setTop (mkF m 202 #[.val (.long l1), .second, .val (.int w1), .val (.int n1), .val (.int a1), .val (.int t1), .val (.ref b15), .val (.int (2 : Int32)), .val (.int v51), .val (.int v54), .val (.int v57), .val (.int v60), .val (.ref b112), .val (.int v123), .val (.int v126), .unset] [(.int (v123 + (1 : Int32))), (.ref b15)])) _
            refine ArF.ldB X120 hx hZ e120 f129 (i := (an + 1)) (own_plus hat (by omega) (i := 1) (by decide) (by omega)) (by have := (own_bd hdd htn (k := 2) (by decide) hc131); omega) (v := (own_l5 v18 v24 v30 v36 v42 (an + 1))) rfl (g := (mkF m 202 #[.val (.long l1), .second, .val (.int w1), .val (.int n1), .val (.int a1), .val (.int t1), .val (.ref b15), .val (.int (2 : Int32)), .val (.int v51), .val (.int v54), .val (.int v57), .val (.int v60), .val (.ref b112), .val (.int v123), .val (.int v126), .unset] [(.int (v123 + (1 : Int32))), (.ref b15)])) rfl rfl (hb hby at_202) _ ?_
            show Steps p.tables e below (T120.setTop (mkF m 203 #[.val (.long l1), .second, .val (.int w1), .val (.int n1), .val (.int a1), .val (.int t1), .val (.ref b15), .val (.int (2 : Int32)), .val (.int v51), .val (.int v54), .val (.int v57), .val (.int v60), .val (.ref b112), .val (.int v123), .val (.int v126), .unset] [(.int (own_l5 v18 v24 v30 v36 v42 (an + 1)))])) _
            refine XS.iload X120.here hx rfl (hb hby at_203) rfl ?_
            show Steps p.tables e below (T120.setTop (mkF m 205 #[.val (.long l1), .second, .val (.int w1), .val (.int n1), .val (.int a1), .val (.int t1), .val (.ref b15), .val (.int (2 : Int32)), .val (.int v51), .val (.int v54), .val (.int v57), .val (.int v60), .val (.ref b112), .val (.int v123), .val (.int v126), .unset] [(.int v54), (.int (own_l5 v18 v24 v30 v36 v42 (an + 1)))])) _
            refine XS.icmpYes X120.here hx rfl (pc0 := 205) (pc' := 248) rfl (hb hby at_205) rfl (feq hc133).2 (by decide) (by decide) ?_
            show Steps p.tables e below (T120.setTop (mkF m 248 #[.val (.long l1), .second, .val (.int w1), .val (.int n1), .val (.int a1), .val (.int t1), .val (.ref b15), .val (.int (2 : Int32)), .val (.int v51), .val (.int v54), .val (.int v57), .val (.int v60), .val (.ref b112), .val (.int v123), .val (.int v126), .unset] [])) _
            refine XS.iconst X120.here hx rfl (hb hby at_248) ?_
            exact kt
        · simp only [if_neg hc131, if_neg hc132] at kt
          show Steps p.tables e below (T120.setTop (mkF m 171 #[.val (.long l1), .second, .val (.int w1), .val (.int n1), .val (.int a1), .val (.int t1), .val (.ref b15), .val (.int (2 : Int32)), .val (.int v51), .val (.int v54), .val (.int v57), .val (.int v60), .val (.ref b112), .val (.int v123), .val (.int v126), .unset] [(.int (v126 - v123)), (.int (2 : Int32))])) _
          refine XS.icmpNo X120.here hx rfl (hb hby at_171) rfl (flt hc131).2.2.1 ?_
          show Steps p.tables e below (T120.setTop (mkF m 174 #[.val (.long l1), .second, .val (.int w1), .val (.int n1), .val (.int a1), .val (.int t1), .val (.ref b15), .val (.int (2 : Int32)), .val (.int v51), .val (.int v54), .val (.int v57), .val (.int v60), .val (.ref b112), .val (.int v123), .val (.int v126), .unset] [])) _
          refine XS.iload X120.here hx rfl (hb hby at_174) rfl ?_
          show Steps p.tables e below (T120.setTop (mkF m 176 #[.val (.long l1), .second, .val (.int w1), .val (.int n1), .val (.int a1), .val (.int t1), .val (.ref b15), .val (.int (2 : Int32)), .val (.int v51), .val (.int v54), .val (.int v57), .val (.int v60), .val (.ref b112), .val (.int v123), .val (.int v126), .unset] [(.int (2 : Int32))])) _
          refine XS.iconst X120.here hx rfl (hb hby at_176) ?_
          show Steps p.tables e below (T120.setTop (mkF m 177 #[.val (.long l1), .second, .val (.int w1), .val (.int n1), .val (.int a1), .val (.int t1), .val (.ref b15), .val (.int (2 : Int32)), .val (.int v51), .val (.int v54), .val (.int v57), .val (.int v60), .val (.ref b112), .val (.int v123), .val (.int v126), .unset] [(.int (1 : Int32)), (.int (2 : Int32))])) _
          refine XS.icmpNo X120.here hx rfl (hb hby at_177) rfl (flt (by decide)).1 ?_
          show Steps p.tables e below (T120.setTop (mkF m 180 #[.val (.long l1), .second, .val (.int w1), .val (.int n1), .val (.int a1), .val (.int t1), .val (.ref b15), .val (.int (2 : Int32)), .val (.int v51), .val (.int v54), .val (.int v57), .val (.int v60), .val (.ref b112), .val (.int v123), .val (.int v126), .unset] [])) _
          refine XS.aload X120.here hx rfl (hb hby at_180) rfl rfl ?_
          show Steps p.tables e below (T120.setTop (mkF m 182 #[.val (.long l1), .second, .val (.int w1), .val (.int n1), .val (.int a1), .val (.int t1), .val (.ref b15), .val (.int (2 : Int32)), .val (.int v51), .val (.int v54), .val (.int v57), .val (.int v60), .val (.ref b112), .val (.int v123), .val (.int v126), .unset] [(.ref b15)])) _
          refine XS.iload X120.here hx rfl (hb hby at_182) rfl ?_
          show Steps p.tables e below (T120.setTop (mkF m 184 #[.val (.long l1), .second, .val (.int w1), .val (.int n1), .val (.int a1), .val (.int t1), .val (.ref b15), .val (.int (2 : Int32)), .val (.int v51), .val (.int v54), .val (.int v57), .val (.int v60), .val (.ref b112), .val (.int v123), .val (.int v126), .unset] [(.int v123), (.ref b15)])) _
          refine ArF.ldB X120 hx hZ e120 f129 (i := an) hat (by have := (own_bd hdd htn (k := 2) (by decide) hc131); omega) (v := (own_l5 v18 v24 v30 v36 v42 an)) rfl (g := (mkF m 184 #[.val (.long l1), .second, .val (.int w1), .val (.int n1), .val (.int a1), .val (.int t1), .val (.ref b15), .val (.int (2 : Int32)), .val (.int v51), .val (.int v54), .val (.int v57), .val (.int v60), .val (.ref b112), .val (.int v123), .val (.int v126), .unset] [(.int v123), (.ref b15)])) rfl rfl (hb hby at_184) _ ?_
          show Steps p.tables e below (T120.setTop (mkF m 185 #[.val (.long l1), .second, .val (.int w1), .val (.int n1), .val (.int a1), .val (.int t1), .val (.ref b15), .val (.int (2 : Int32)), .val (.int v51), .val (.int v54), .val (.int v57), .val (.int v60), .val (.ref b112), .val (.int v123), .val (.int v126), .unset] [(.int (own_l5 v18 v24 v30 v36 v42 an))])) _
          refine XS.iload X120.here hx rfl (hb hby at_185) rfl ?_
          show Steps p.tables e below (T120.setTop (mkF m 187 #[.val (.long l1), .second, .val (.int w1), .val (.int n1), .val (.int a1), .val (.int t1), .val (.ref b15), .val (.int (2 : Int32)), .val (.int v51), .val (.int v54), .val (.int v57), .val (.int v60), .val (.ref b112), .val (.int v123), .val (.int v126), .unset] [(.int v51), (.int (own_l5 v18 v24 v30 v36 v42 an))])) _
          refine XS.icmpYes X120.here hx rfl (pc0 := 187) (pc' := 248) rfl (hb hby at_187) rfl (feq hc132).2 (by decide) (by decide) ?_
          show Steps p.tables e below (T120.setTop (mkF m 248 #[.val (.long l1), .second, .val (.int w1), .val (.int n1), .val (.int a1), .val (.int t1), .val (.ref b15), .val (.int (2 : Int32)), .val (.int v51), .val (.int v54), .val (.int v57), .val (.int v60), .val (.ref b112), .val (.int v123), .val (.int v126), .unset] [])) _
          refine XS.iconst X120.here hx rfl (hb hby at_248) ?_
          exact kt
    have hva : ArF Z h120 b112 .byte 2 (fun q => (.int ((own_l4 v51 v54 v57 v60) q))) := V120.congr (fun i hi => by rcases (show i = 0 ∨ i = 1 by omega) with rfl | rfl <;> simp [own_l4, nbv51, nbv54, nbv57, nbv60])
    have S136 : ∀ t, Steps p.tables e below (T120.setTop (mkF m 259 #[.val (.long l1), .second, .val (.int w1), .val (.int n1), .val (.int a1), .val (.int t1), .val (.ref b15), .val (.int (2 : Int32)), .val (.int v51), .val (.int v54), .val (.int v57), .val (.int v60), .val (.ref b112), .val (.int v123), .val (.int v126), .val (.int v135)] [(.ref b112), (.int v126), (.int v123), (.ref b15)])) t → Steps p.tables e below (T120.setTop (mkF m 249 #[.val (.long l1), .second, .val (.int w1), .val (.int n1), .val (.int a1), .val (.int t1), .val (.ref b15), .val (.int (2 : Int32)), .val (.int v51), .val (.int v54), .val (.int v57), .val (.int v60), .val (.ref b112), .val (.int v123), .val (.int v126), .unset] [(.int v135)])) t := by
      intro t kt
      show Steps p.tables e below (T120.setTop (mkF m 249 #[.val (.long l1), .second, .val (.int w1), .val (.int n1), .val (.int a1), .val (.int t1), .val (.ref b15), .val (.int (2 : Int32)), .val (.int v51), .val (.int v54), .val (.int v57), .val (.int v60), .val (.ref b112), .val (.int v123), .val (.int v126), .unset] [(.int v135)])) _
      refine XS.istore X120.here hx rfl (hb hby at_249) rfl (l' := #[.val (.long l1), .second, .val (.int w1), .val (.int n1), .val (.int a1), .val (.int t1), .val (.ref b15), .val (.int (2 : Int32)), .val (.int v51), .val (.int v54), .val (.int v57), .val (.int v60), .val (.ref b112), .val (.int v123), .val (.int v126), .val (.int v135)]) rfl ?_
      show Steps p.tables e below (T120.setTop (mkF m 251 #[.val (.long l1), .second, .val (.int w1), .val (.int n1), .val (.int a1), .val (.int t1), .val (.ref b15), .val (.int (2 : Int32)), .val (.int v51), .val (.int v54), .val (.int v57), .val (.int v60), .val (.ref b112), .val (.int v123), .val (.int v126), .val (.int v135)] [])) _
      refine XS.aload X120.here hx rfl (hb hby at_251) rfl rfl ?_
      show Steps p.tables e below (T120.setTop (mkF m 253 #[.val (.long l1), .second, .val (.int w1), .val (.int n1), .val (.int a1), .val (.int t1), .val (.ref b15), .val (.int (2 : Int32)), .val (.int v51), .val (.int v54), .val (.int v57), .val (.int v60), .val (.ref b112), .val (.int v123), .val (.int v126), .val (.int v135)] [(.ref b15)])) _
      refine XS.iload X120.here hx rfl (hb hby at_253) rfl ?_
      show Steps p.tables e below (T120.setTop (mkF m 255 #[.val (.long l1), .second, .val (.int w1), .val (.int n1), .val (.int a1), .val (.int t1), .val (.ref b15), .val (.int (2 : Int32)), .val (.int v51), .val (.int v54), .val (.int v57), .val (.int v60), .val (.ref b112), .val (.int v123), .val (.int v126), .val (.int v135)] [(.int v123), (.ref b15)])) _
      refine XS.iload X120.here hx rfl (hb hby at_255) rfl ?_
      show Steps p.tables e below (T120.setTop (mkF m 257 #[.val (.long l1), .second, .val (.int w1), .val (.int n1), .val (.int a1), .val (.int t1), .val (.ref b15), .val (.int (2 : Int32)), .val (.int v51), .val (.int v54), .val (.int v57), .val (.int v60), .val (.ref b112), .val (.int v123), .val (.int v126), .val (.int v135)] [(.int v126), (.int v123), (.ref b15)])) _
      refine XS.aload X120.here hx rfl (hb hby at_257) rfl rfl ?_
      exact kt
    obtain ⟨_, _, ⟨T137, L137, k137, n137⟩, -, X137, ⟨Lc137, hQ137, l137, y137, z137⟩, st137⟩ := Jvm.LawKit.callS X120 hx (y := (⟨"com/example/joinery/joinery/Bytes", "startsWith", "([BII[B)Z"⟩ : MethodName)) hown (mvT hZ (hw _ (List.mem_of_getElem? (i := 2) rfl))) (mvT hZ (hw _ (List.mem_of_getElem? (i := 3) rfl))) (mvT hZ (hw _ (List.mem_of_getElem? (i := 4) rfl))) (mvT hZ (hw _ (List.mem_of_getElem? (i := 5) rfl))) (by decide) (backOf (W := 0) (rm1 l Z a0 hw [] b15 v123 v126 b112 an tn 2 (own_l5 v18 v24 v30 v36 v42) (own_l4 v51 v54 v57 v60) h120 n0 z121 f129 hva hat hdd htn (by decide)) hZ (hw _ (List.mem_of_getElem? (i := 5) rfl)) (hw _ (List.mem_of_getElem? (i := 4) rfl)) (by decide) (by decide)) (g := (mkF m 259 #[.val (.long l1), .second, .val (.int w1), .val (.int n1), .val (.int a1), .val (.int t1), .val (.ref b15), .val (.int (2 : Int32)), .val (.int v51), .val (.int v54), .val (.int v57), .val (.int v60), .val (.ref b112), .val (.int v123), .val (.int v126), .val (.int v135)] [(.ref b112), (.int v126), (.int v123), (.ref b15)])) rfl (by rw [hml]; rfl) (argsL := [(.ref b15), (.int v123), (.int v126), (.ref b112)]) (rest := []) (lenOf pd_0 rfl) rfl (by show 2 * 0 + _ ≤ _; exact Nat.le_of_eq rfl) (hb hby at_259) (fun _ _ => ⟨rfl, e120, (by decide : 2 + 0 ≤ _), (by decide : 7 + 0 ≤ _)⟩)
    dsimp only [Pt.U, Pt.locs, Pt.cells, Pt.slots] at X137 l137 y137 z137 st137 hQ137
    subst l137 y137 z137
    obtain ⟨rfl, N137q, e137⟩ := hQ137
    have N137 := Fr.app N122 N137q
    have S138 : ∀ t, Steps p.tables e below (T137.setTop (mkF m 272 #[.val (.long l1), .second, .val (.int w1), .val (.int n1), .val (.int a1), .val (.int t1), .val (.ref b15), .val (.int (2 : Int32)), .val (.int v51), .val (.int v54), .val (.int v57), .val (.int v60), .val (.ref b112), .val (.int v123), .val (.int v126), .val (.int v135)] [(.int (1 : Int32))])) t → Steps p.tables e below (T137.setTop (mkF m 262 #[.val (.long l1), .second, .val (.int w1), .val (.int n1), .val (.int a1), .val (.int t1), .val (.ref b15), .val (.int (2 : Int32)), .val (.int v51), .val (.int v54), .val (.int v57), .val (.int v60), .val (.ref b112), .val (.int v123), .val (.int v126), .val (.int v135)] [(.int (own_sw (own_l5 v18 v24 v30 v36 v42) (own_l4 v51 v54 v57 v60) an (v126 - v123) 2))])) t := by
      intro t kt
      show Steps p.tables e below (T137.setTop (mkF m 262 #[.val (.long l1), .second, .val (.int w1), .val (.int n1), .val (.int a1), .val (.int t1), .val (.ref b15), .val (.int (2 : Int32)), .val (.int v51), .val (.int v54), .val (.int v57), .val (.int v60), .val (.ref b112), .val (.int v123), .val (.int v126), .val (.int v135)] [(.int (own_sw (own_l5 v18 v24 v30 v36 v42) (own_l4 v51 v54 v57 v60) an (v126 - v123) 2))])) _
      refine XS.iload X137.here hx rfl (hb hby at_262) rfl ?_
      show Steps p.tables e below (T137.setTop (mkF m 264 #[.val (.long l1), .second, .val (.int w1), .val (.int n1), .val (.int a1), .val (.int t1), .val (.ref b15), .val (.int (2 : Int32)), .val (.int v51), .val (.int v54), .val (.int v57), .val (.int v60), .val (.ref b112), .val (.int v123), .val (.int v126), .val (.int v135)] [(.int v135), (.int (own_sw (own_l5 v18 v24 v30 v36 v42) (own_l4 v51 v54 v57 v60) an (v126 - v123) 2))])) _
      refine XS.icmpNo X137.here hx rfl (hb hby at_264) rfl (teq (show (own_sw (own_l5 v18 v24 v30 v36 v42) (own_l4 v51 v54 v57 v60) an (v126 - v123) 2) = v135 from by rw [hv135]; rfl)).2 ?_
      show Steps p.tables e below (T137.setTop (mkF m 267 #[.val (.long l1), .second, .val (.int w1), .val (.int n1), .val (.int a1), .val (.int t1), .val (.ref b15), .val (.int (2 : Int32)), .val (.int v51), .val (.int v54), .val (.int v57), .val (.int v60), .val (.ref b112), .val (.int v123), .val (.int v126), .val (.int v135)] [])) _
      refine XS.iconst X137.here hx rfl (hb hby at_267) ?_
      show Steps p.tables e below (T137.setTop (mkF m 268 #[.val (.long l1), .second, .val (.int w1), .val (.int n1), .val (.int a1), .val (.int t1), .val (.ref b15), .val (.int (2 : Int32)), .val (.int v51), .val (.int v54), .val (.int v57), .val (.int v60), .val (.ref b112), .val (.int v123), .val (.int v126), .val (.int v135)] [(.int (1 : Int32))])) _
      refine XS.goto X137.here hx rfl (pc0 := 268) (pc' := 272) rfl (hb hby at_268) (by decide) (by decide) ?_
      exact kt
    have C139 : ∀ t, Steps p.tables e below (T137.setTop (mkF m 272 #[.val (.long l1), .second, .val (.int w1), .val (.int n1), .val (.int a1), .val (.int t1), .val (.ref b15), .val (.int (2 : Int32)), .val (.int v51), .val (.int v54), .val (.int v57), .val (.int v60), .val (.ref b112), .val (.int v123), .val (.int v126), .val (.int v135)] [(.int (1 : Int32))])) t → Steps p.tables e below (s₁.setTop (mkF m 0 #[.val (.long l1), .second, .val (.int w1), .val (.int n1), .val (.int a1), .val (.int t1), .unset, .unset, .unset, .unset, .unset, .unset, .unset, .unset, .unset, .unset] [])) t := (fun t k => (C64 t (S110 t (S111 t (st112 t (S115 t (st116 t (S119 t (st120 t (S124 t (S125 t (S127 t (S128 t (S130 t (S134 t (S136 t (st137 t (S138 t k))))))))))))))))))
    obtain ⟨fs, hr, hrun, hended, hW, hsame⟩ := X137.leave (v := some (.int (1 : Int32))) (fun h => by rw [Bd.returns] at h; cases h)
    refine ⟨_, _, pre0 _ (C139 _ ?_), hrun, hended, _, _, rfl, ?_, ⟨_, rfl⟩, hW, hsame.mono (by decide) (by decide)⟩
    · exact retN X137 hx (t := .boolean) Bd.returns (by simp) (hb hby at_272) hr
    · show Q_rm0 Z l1 w1 n1 a1 t1 h0 n0 _ T137.heap _
      rw [e137]
      exact ⟨rfl, N137⟩
  · have S140 : ∀ t, Steps p.tables e below (T45.setTop (mkF m 85 #[.val (.long l1), .second, .val (.int w1), .val (.int n1), .val (.int a1), .val (.int t1), .val (.ref b15), .val (.int (3 : Int32)), .val (.int v51), .val (.int v54), .val (.int v57), .val (.int v60), .unset, .unset, .unset, .unset] [])) t → Steps p.tables e below (T45.setTop (mkF m 85 #[.val (.long l1), .second, .val (.int w1), .val (.int n1), .val (.int a1), .val (.int t1), .val (.ref b15), .val (.int v48), .val (.int v51), .val (.int v54), .val (.int v57), .val (.int v60), .unset, .unset, .unset, .unset] [])) t := fun t k => by rw [qv48]; exact k
    have S141 : ∀ t, Steps p.tables e below (T45.setTop (mkF m 87 #[.val (.long l1), .second, .val (.int w1), .val (.int n1), .val (.int a1), .val (.int t1), .val (.ref b15), .val (.int (3 : Int32)), .val (.int v51), .val (.int v54), .val (.int v57), .val (.int v60), .unset, .unset, .unset, .unset] [(.int (3 : Int32))])) t → Steps p.tables e below (T45.setTop (mkF m 85 #[.val (.long l1), .second, .val (.int w1), .val (.int n1), .val (.int a1), .val (.int t1), .val (.ref b15), .val (.int (3 : Int32)), .val (.int v51), .val (.int v54), .val (.int v57), .val (.int v60), .unset, .unset, .unset, .unset] [])) t := by
      intro t kt
      show Steps p.tables e below (T45.setTop (mkF m 85 #[.val (.long l1), .second, .val (.int w1), .val (.int n1), .val (.int a1), .val (.int t1), .val (.ref b15), .val (.int (3 : Int32)), .val (.int v51), .val (.int v54), .val (.int v57), .val (.int v60), .unset, .unset, .unset, .unset] [])) _
      refine XS.iload X45.here hx rfl (hb hby at_85) rfl ?_
      exact kt
    obtain ⟨T142, h142, k142, X142, e142, E142, A142, st142⟩ := newP X45 hx hZ (hw _ (List.mem_of_getElem? (i := 0) rfl)) e45 (g := (mkF m 87 #[.val (.long l1), .second, .val (.int w1), .val (.int n1), .val (.int a1), .val (.int t1), .val (.ref b15), .val (.int (3 : Int32)), .val (.int v51), .val (.int v54), .val (.int v57), .val (.int v60), .unset, .unset, .unset, .unset] [(.int (3 : Int32))])) rfl (hb hby at_87) rfl (by decide) (cap := 3) (by decide) (by decide) (by decide) (by decide)
    obtain ⟨b142, g142⟩ : ∃ z, z = h45.size := ⟨_, rfl⟩
    rw [← g142] at A142 st142
    have g_b142 : n0 ≤ b142 := Nat.le_trans z46 (Nat.le_of_eq g142.symm)
    have K143 := ((((((K16.ext E15).wr W21 (Or.inr sz_b15)).wr W27 (Or.inr sz_b15)).wr W33 (Or.inr sz_b15)).wr W39 (Or.inr sz_b15)).wr W45 (Or.inr sz_b15))
    have sz_b142 : h0.size ≤ b142 := Nat.le_trans K143.1 (Nat.le_of_eq g142.symm)
    have ne_b15_b142 : b15 ≠ b142 := Nat.ne_of_lt (Nat.lt_of_lt_of_le V45'.lt (Nat.le_of_eq g142.symm))
    have z144 : n0 ≤ h142.size := Nat.le_trans z46 E142.1
    have V142 : ArF Z h142 b142 .byte 3 (fun _ => (.int (0 : Int32))) := ArF.new A142 (by decide) rfl
    have S145 : ∀ t, Steps p.tables e below (T142.setTop (mkF m 101 #[.val (.long l1), .second, .val (.int w1), .val (.int n1), .val (.int a1), .val (.int t1), .val (.ref b15), .val (.int (3 : Int32)), .val (.int v51), .val (.int v54), .val (.int v57), .val (.int v60), .val (.ref b142), .unset, .unset, .unset] [(.int v51), (.int (0 : Int32)), (.ref b142)])) t → Steps p.tables e below (T142.setTop (mkF m 89 #[.val (.long l1), .second, .val (.int w1), .val (.int n1), .val (.int a1), .val (.int t1), .val (.ref b15), .val (.int (3 : Int32)), .val (.int v51), .val (.int v54), .val (.int v57), .val (.int v60), .unset, .unset, .unset, .unset] [(.ref b142)])) t := by
      intro t kt
      show Steps p.tables e below (T142.setTop (mkF m 89 #[.val (.long l1), .second, .val (.int w1), .val (.int n1), .val (.int a1), .val (.int t1), .val (.ref b15), .val (.int (3 : Int32)), .val (.int v51), .val (.int v54), .val (.int v57), .val (.int v60), .unset, .unset, .unset, .unset] [(.ref b142)])) _
      refine XS.astore X142.here hx rfl (hb hby at_89) rfl rfl (l' := #[.val (.long l1), .second, .val (.int w1), .val (.int n1), .val (.int a1), .val (.int t1), .val (.ref b15), .val (.int (3 : Int32)), .val (.int v51), .val (.int v54), .val (.int v57), .val (.int v60), .val (.ref b142), .unset, .unset, .unset]) rfl ?_
      show Steps p.tables e below (T142.setTop (mkF m 91 #[.val (.long l1), .second, .val (.int w1), .val (.int n1), .val (.int a1), .val (.int t1), .val (.ref b15), .val (.int (3 : Int32)), .val (.int v51), .val (.int v54), .val (.int v57), .val (.int v60), .val (.ref b142), .unset, .unset, .unset] [])) _
      refine XS.iload X142.here hx rfl (hb hby at_91) rfl ?_
      show Steps p.tables e below (T142.setTop (mkF m 93 #[.val (.long l1), .second, .val (.int w1), .val (.int n1), .val (.int a1), .val (.int t1), .val (.ref b15), .val (.int (3 : Int32)), .val (.int v51), .val (.int v54), .val (.int v57), .val (.int v60), .val (.ref b142), .unset, .unset, .unset] [(.int (3 : Int32))])) _
      refine XS.ifNo X142.here hx rfl (hb hby at_93) rfl ((if0 _ _).trans (tlt (by decide)).2.2.2) ?_
      show Steps p.tables e below (T142.setTop (mkF m 96 #[.val (.long l1), .second, .val (.int w1), .val (.int n1), .val (.int a1), .val (.int t1), .val (.ref b15), .val (.int (3 : Int32)), .val (.int v51), .val (.int v54), .val (.int v57), .val (.int v60), .val (.ref b142), .unset, .unset, .unset] [])) _
      refine XS.aload X142.here hx rfl (hb hby at_96) rfl rfl ?_
      show Steps p.tables e below (T142.setTop (mkF m 98 #[.val (.long l1), .second, .val (.int w1), .val (.int n1), .val (.int a1), .val (.int t1), .val (.ref b15), .val (.int (3 : Int32)), .val (.int v51), .val (.int v54), .val (.int v57), .val (.int v60), .val (.ref b142), .unset, .unset, .unset] [(.ref b142)])) _
      refine XS.iconst X142.here hx rfl (hb hby at_98) ?_
      show Steps p.tables e below (T142.setTop (mkF m 99 #[.val (.long l1), .second, .val (.int w1), .val (.int n1), .val (.int a1), .val (.int t1), .val (.ref b15), .val (.int (3 : Int32)), .val (.int v51), .val (.int v54), .val (.int v57), .val (.int v60), .val (.ref b142), .unset, .unset, .unset] [(.int (0 : Int32)), (.ref b142)])) _
      refine XS.iload X142.here hx rfl (hb hby at_99) rfl ?_
      exact kt
    obtain ⟨T146, h146, X146, e146, W146, V146, st146⟩ := ArF.stB X142 hx hZ e142 V142 (i := 0) (by decide) (by decide) (g := (mkF m 101 #[.val (.long l1), .second, .val (.int w1), .val (.int n1), .val (.int a1), .val (.int t1), .val (.ref b15), .val (.int (3 : Int32)), .val (.int v51), .val (.int v54), .val (.int v57), .val (.int v60), .val (.ref b142), .unset, .unset, .unset] [(.int v51), (.int (0 : Int32)), (.ref b142)])) rfl rfl (hb hby at_101)
    have z147 : n0 ≤ h146.size := Nat.le_trans z144 (Keep.of_wr W146).1
    have N148 := Fr.snoc X146 N47 g_b142
    have S149 : ∀ t, Steps p.tables e below (T146.setTop (mkF m 113 #[.val (.long l1), .second, .val (.int w1), .val (.int n1), .val (.int a1), .val (.int t1), .val (.ref b15), .val (.int (3 : Int32)), .val (.int v51), .val (.int v54), .val (.int v57), .val (.int v60), .val (.ref b142), .unset, .unset, .unset] [(.int v54), (.int (1 : Int32)), (.ref b142)])) t → Steps p.tables e below (T146.setTop (mkF m 102 #[.val (.long l1), .second, .val (.int w1), .val (.int n1), .val (.int a1), .val (.int t1), .val (.ref b15), .val (.int (3 : Int32)), .val (.int v51), .val (.int v54), .val (.int v57), .val (.int v60), .val (.ref b142), .unset, .unset, .unset] [])) t := by
      intro t kt
      show Steps p.tables e below (T146.setTop (mkF m 102 #[.val (.long l1), .second, .val (.int w1), .val (.int n1), .val (.int a1), .val (.int t1), .val (.ref b15), .val (.int (3 : Int32)), .val (.int v51), .val (.int v54), .val (.int v57), .val (.int v60), .val (.ref b142), .unset, .unset, .unset] [])) _
      refine XS.iload X146.here hx rfl (hb hby at_102) rfl ?_
      show Steps p.tables e below (T146.setTop (mkF m 104 #[.val (.long l1), .second, .val (.int w1), .val (.int n1), .val (.int a1), .val (.int t1), .val (.ref b15), .val (.int (3 : Int32)), .val (.int v51), .val (.int v54), .val (.int v57), .val (.int v60), .val (.ref b142), .unset, .unset, .unset] [(.int (3 : Int32))])) _
      refine XS.iconst X146.here hx rfl (hb hby at_104) ?_
      show Steps p.tables e below (T146.setTop (mkF m 105 #[.val (.long l1), .second, .val (.int w1), .val (.int n1), .val (.int a1), .val (.int t1), .val (.ref b15), .val (.int (3 : Int32)), .val (.int v51), .val (.int v54), .val (.int v57), .val (.int v60), .val (.ref b142), .unset, .unset, .unset] [(.int (1 : Int32)), (.int (3 : Int32))])) _
      refine XS.icmpNo X146.here hx rfl (hb hby at_105) rfl (tlt (by decide)).2.2.2 ?_
      show Steps p.tables e below (T146.setTop (mkF m 108 #[.val (.long l1), .second, .val (.int w1), .val (.int n1), .val (.int a1), .val (.int t1), .val (.ref b15), .val (.int (3 : Int32)), .val (.int v51), .val (.int v54), .val (.int v57), .val (.int v60), .val (.ref b142), .unset, .unset, .unset] [])) _
      refine XS.aload X146.here hx rfl (hb hby at_108) rfl rfl ?_
      show Steps p.tables e below (T146.setTop (mkF m 110 #[.val (.long l1), .second, .val (.int w1), .val (.int n1), .val (.int a1), .val (.int t1), .val (.ref b15), .val (.int (3 : Int32)), .val (.int v51), .val (.int v54), .val (.int v57), .val (.int v60), .val (.ref b142), .unset, .unset, .unset] [(.ref b142)])) _
      refine XS.iconst X146.here hx rfl (hb hby at_110) ?_
      show Steps p.tables e below (T146.setTop (mkF m 111 #[.val (.long l1), .second, .val (.int w1), .val (.int n1), .val (.int a1), .val (.int t1), .val (.ref b15), .val (.int (3 : Int32)), .val (.int v51), .val (.int v54), .val (.int v57), .val (.int v60), .val (.ref b142), .unset, .unset, .unset] [(.int (1 : Int32)), (.ref b142)])) _
      refine XS.iload X146.here hx rfl (hb hby at_111) rfl ?_
      exact kt
    obtain ⟨T150, h150, X150, e150, W150, V150, st150⟩ := ArF.stB X146 hx hZ e146 V146 (i := 1) (by decide) (by decide) (g := (mkF m 113 #[.val (.long l1), .second, .val (.int w1), .val (.int n1), .val (.int a1), .val (.int t1), .val (.ref b15), .val (.int (3 : Int32)), .val (.int v51), .val (.int v54), .val (.int v57), .val (.int v60), .val (.ref b142), .unset, .unset, .unset] [(.int v54), (.int (1 : Int32)), (.ref b142)])) rfl rfl (hb hby at_113)
    have z151 : n0 ≤ h150.size := Nat.le_trans z147 (Keep.of_wr W150).1
    have N152 := Fr.snoc X150 N148 g_b142
    have S153 : ∀ t, Steps p.tables e below (T150.setTop (mkF m 125 #[.val (.long l1), .second, .val (.int w1), .val (.int n1), .val (.int a1), .val (.int t1), .val (.ref b15), .val (.int (3 : Int32)), .val (.int v51), .val (.int v54), .val (.int v57), .val (.int v60), .val (.ref b142), .unset, .unset, .unset] [(.int v57), (.int (2 : Int32)), (.ref b142)])) t → Steps p.tables e below (T150.setTop (mkF m 114 #[.val (.long l1), .second, .val (.int w1), .val (.int n1), .val (.int a1), .val (.int t1), .val (.ref b15), .val (.int (3 : Int32)), .val (.int v51), .val (.int v54), .val (.int v57), .val (.int v60), .val (.ref b142), .unset, .unset, .unset] [])) t := by
      intro t kt
      show Steps p.tables e below (T150.setTop (mkF m 114 #[.val (.long l1), .second, .val (.int w1), .val (.int n1), .val (.int a1), .val (.int t1), .val (.ref b15), .val (.int (3 : Int32)), .val (.int v51), .val (.int v54), .val (.int v57), .val (.int v60), .val (.ref b142), .unset, .unset, .unset] [])) _
      refine XS.iload X150.here hx rfl (hb hby at_114) rfl ?_
      show Steps p.tables e below (T150.setTop (mkF m 116 #[.val (.long l1), .second, .val (.int w1), .val (.int n1), .val (.int a1), .val (.int t1), .val (.ref b15), .val (.int (3 : Int32)), .val (.int v51), .val (.int v54), .val (.int v57), .val (.int v60), .val (.ref b142), .unset, .unset, .unset] [(.int (3 : Int32))])) _
      refine XS.iconst X150.here hx rfl (hb hby at_116) ?_
      show Steps p.tables e below (T150.setTop (mkF m 117 #[.val (.long l1), .second, .val (.int w1), .val (.int n1), .val (.int a1), .val (.int t1), .val (.ref b15), .val (.int (3 : Int32)), .val (.int v51), .val (.int v54), .val (.int v57), .val (.int v60), .val (.ref b142), .unset, .unset, .unset] [(.int (2 : Int32)), (.int (3 : Int32))])) _
      refine XS.icmpNo X150.here hx rfl (hb hby at_117) rfl (tlt (by decide)).2.2.2 ?_
      show Steps p.tables e below (T150.setTop (mkF m 120 #[.val (.long l1), .second, .val (.int w1), .val (.int n1), .val (.int a1), .val (.int t1), .val (.ref b15), .val (.int (3 : Int32)), .val (.int v51), .val (.int v54), .val (.int v57), .val (.int v60), .val (.ref b142), .unset, .unset, .unset] [])) _
      refine XS.aload X150.here hx rfl (hb hby at_120) rfl rfl ?_
      show Steps p.tables e below (T150.setTop (mkF m 122 #[.val (.long l1), .second, .val (.int w1), .val (.int n1), .val (.int a1), .val (.int t1), .val (.ref b15), .val (.int (3 : Int32)), .val (.int v51), .val (.int v54), .val (.int v57), .val (.int v60), .val (.ref b142), .unset, .unset, .unset] [(.ref b142)])) _
      refine XS.iconst X150.here hx rfl (hb hby at_122) ?_
      show Steps p.tables e below (T150.setTop (mkF m 123 #[.val (.long l1), .second, .val (.int w1), .val (.int n1), .val (.int a1), .val (.int t1), .val (.ref b15), .val (.int (3 : Int32)), .val (.int v51), .val (.int v54), .val (.int v57), .val (.int v60), .val (.ref b142), .unset, .unset, .unset] [(.int (2 : Int32)), (.ref b142)])) _
      refine XS.iload X150.here hx rfl (hb hby at_123) rfl ?_
      exact kt
    obtain ⟨T154, h154, X154, e154, W154, V154, st154⟩ := ArF.stB X150 hx hZ e150 V150 (i := 2) (by decide) (by decide) (g := (mkF m 125 #[.val (.long l1), .second, .val (.int w1), .val (.int n1), .val (.int a1), .val (.int t1), .val (.ref b15), .val (.int (3 : Int32)), .val (.int v51), .val (.int v54), .val (.int v57), .val (.int v60), .val (.ref b142), .unset, .unset, .unset] [(.int v57), (.int (2 : Int32)), (.ref b142)])) rfl rfl (hb hby at_125)
    have z155 : n0 ≤ h154.size := Nat.le_trans z151 (Keep.of_wr W154).1
    have N156 := Fr.snoc X154 N152 g_b142
    have S158 : ∀ t, Steps p.tables e below (T154.setTop (mkF m 146 #[.val (.long l1), .second, .val (.int w1), .val (.int n1), .val (.int a1), .val (.int t1), .val (.ref b15), .val (.int (3 : Int32)), .val (.int v51), .val (.int v54), .val (.int v57), .val (.int v60), .val (.ref b142), .unset, .unset, .unset] [(.int ((a1 &&& (7 : Int32)) % (6 : Int32)))])) t → Steps p.tables e below (T154.setTop (mkF m 126 #[.val (.long l1), .second, .val (.int w1), .val (.int n1), .val (.int a1), .val (.int t1), .val (.ref b15), .val (.int (3 : Int32)), .val (.int v51), .val (.int v54), .val (.int v57), .val (.int v60), .val (.ref b142), .unset, .unset, .unset] [])) t := by
      intro t kt
      show Steps p.tables e below (T154.setTop (mkF m 126 #[.val (.long l1), .second, .val (.int w1), .val (.int n1), .val (.int a1), .val (.int t1), .val (.ref b15), .val (.int (3 : Int32)), .val (.int v51), .val (.int v54), .val (.int v57), .val (.int v60), .val (.ref b142), .unset, .unset, .unset] [])) _
      refine XS.iload X154.here hx rfl (hb hby at_126) rfl ?_
      show Steps p.tables e below (T154.setTop (mkF m 128 #[.val (.long l1), .second, .val (.int w1), .val (.int n1), .val (.int a1), .val (.int t1), .val (.ref b15), .val (.int (3 : Int32)), .val (.int v51), .val (.int v54), .val (.int v57), .val (.int v60), .val (.ref b142), .unset, .unset, .unset] [(.int (3 : Int32))])) _
      refine XS.iconst X154.here hx rfl (hb hby at_128) ?_
      show Steps p.tables e below (T154.setTop (mkF m 129 #[.val (.long l1), .second, .val (.int w1), .val (.int n1), .val (.int a1), .val (.int t1), .val (.ref b15), .val (.int (3 : Int32)), .val (.int v51), .val (.int v54), .val (.int v57), .val (.int v60), .val (.ref b142), .unset, .unset, .unset] [(.int (3 : Int32)), (.int (3 : Int32))])) _
      refine XS.icmpYes X154.here hx rfl (pc0 := 129) (pc' := 138) rfl (hb hby at_129) rfl (flt (by decide)).2.2.2 (by decide) (by decide) ?_
      show Steps p.tables e below (T154.setTop (mkF m 138 #[.val (.long l1), .second, .val (.int w1), .val (.int n1), .val (.int a1), .val (.int t1), .val (.ref b15), .val (.int (3 : Int32)), .val (.int v51), .val (.int v54), .val (.int v57), .val (.int v60), .val (.ref b142), .unset, .unset, .unset] [])) _
      refine XS.iload X154.here hx rfl (hb hby at_138) rfl ?_
      show Steps p.tables e below (T154.setTop (mkF m 140 #[.val (.long l1), .second, .val (.int w1), .val (.int n1), .val (.int a1), .val (.int t1), .val (.ref b15), .val (.int (3 : Int32)), .val (.int v51), .val (.int v54), .val (.int v57), .val (.int v60), .val (.ref b142), .unset, .unset, .unset] [(.int a1)])) _
      refine XS.bipush X154.here hx rfl (hb hby at_140) ?_
      show Steps p.tables e below (T154.setTop (mkF m 142 #[.val (.long l1), .second, .val (.int w1), .val (.int n1), .val (.int a1), .val (.int t1), .val (.ref b15), .val (.int (3 : Int32)), .val (.int v51), .val (.int v54), .val (.int v57), .val (.int v60), .val (.ref b142), .unset, .unset, .unset] [(.int (7 : Int32)), (.int a1)])) _
      refine XS.iand X154.here hx rfl (hb hby at_142) rfl ?_
      show Steps p.tables e below (T154.setTop (mkF m 143 #[.val (.long l1), .second, .val (.int w1), .val (.int n1), .val (.int a1), .val (.int t1), .val (.ref b15), .val (.int (3 : Int32)), .val (.int v51), .val (.int v54), .val (.int v57), .val (.int v60), .val (.ref b142), .unset, .unset, .unset] [(.int (a1 &&& (7 : Int32)))])) _
      refine XS.bipush X154.here hx rfl (hb hby at_143) ?_
      show Steps p.tables e below (T154.setTop (mkF m 145 #[.val (.long l1), .second, .val (.int w1), .val (.int n1), .val (.int a1), .val (.int t1), .val (.ref b15), .val (.int (3 : Int32)), .val (.int v51), .val (.int v54), .val (.int v57), .val (.int v60), .val (.ref b142), .unset, .unset, .unset] [(.int (6 : Int32)), (.int (a1 &&& (7 : Int32)))])) _
      refine iremM X154 hx rfl (hb hby at_145) rfl (by decide) ?_
      exact kt
    obtain ⟨v157, hv157⟩ : ∃ z : Int32, z = ((a1 &&& (7 : Int32)) % (6 : Int32)) := ⟨_, rfl⟩
    have S159 : ∀ t, Steps p.tables e below (T154.setTop (mkF m 146 #[.val (.long l1), .second, .val (.int w1), .val (.int n1), .val (.int a1), .val (.int t1), .val (.ref b15), .val (.int (3 : Int32)), .val (.int v51), .val (.int v54), .val (.int v57), .val (.int v60), .val (.ref b142), .unset, .unset, .unset] [(.int v157)])) t → Steps p.tables e below (T154.setTop (mkF m 146 #[.val (.long l1), .second, .val (.int w1), .val (.int n1), .val (.int a1), .val (.int t1), .val (.ref b15), .val (.int (3 : Int32)), .val (.int v51), .val (.int v54), .val (.int v57), .val (.int v60), .val (.ref b142), .unset, .unset, .unset] [(.int ((a1 &&& (7 : Int32)) % (6 : Int32)))])) t := fun t k => by rw [hv157.symm]; exact k
    obtain ⟨an, hat, han⟩ := own_at_in _ _ hv157
    have S161 : ∀ t, Steps p.tables e below (T154.setTop (mkF m 162 #[.val (.long l1), .second, .val (.int w1), .val (.int n1), .val (.int a1), .val (.int t1), .val (.ref b15), .val (.int (3 : Int32)), .val (.int v51), .val (.int v54), .val (.int v57), .val (.int v60), .val (.ref b142), .val (.int v157), .unset, .unset] [(.int (v157 + ((t1 &&& (2147483647 : Int32)) % ((6 : Int32) - v157))))])) t → Steps p.tables e below (T154.setTop (mkF m 146 #[.val (.long l1), .second, .val (.int w1), .val (.int n1), .val (.int a1), .val (.int t1), .val (.ref b15), .val (.int (3 : Int32)), .val (.int v51), .val (.int v54), .val (.int v57), .val (.int v60), .val (.ref b142), .unset, .unset, .unset] [(.int v157)])) t := by
      intro t kt
      show Steps p.tables e below (T154.setTop (mkF m 146 #[.val (.long l1), .second, .val (.int w1), .val (.int n1), .val (.int a1), .val (.int t1), .val (.ref b15), .val (.int (3 : Int32)), .val (.int v51), .val (.int v54), .val (.int v57), .val (.int v60), .val (.ref b142), .unset, .unset, .unset] [(.int v157)])) _
      refine XS.istore X154.here hx rfl (hb hby at_146) rfl (l' := #[.val (.long l1), .second, .val (.int w1), .val (.int n1), .val (.int a1), .val (.int t1), .val (.ref b15), .val (.int (3 : Int32)), .val (.int v51), .val (.int v54), .val (.int v57), .val (.int v60), .val (.ref b142), .val (.int v157), .unset, .unset]) rfl ?_
      show Steps p.tables e below (T154.setTop (mkF m 148 #[.val (.long l1), .second, .val (.int w1), .val (.int n1), .val (.int a1), .val (.int t1), .val (.ref b15), .val (.int (3 : Int32)), .val (.int v51), .val (.int v54), .val (.int v57), .val (.int v60), .val (.ref b142), .val (.int v157), .unset, .unset] [])) _
      refine XS.iload X154.here hx rfl (hb hby at_148) rfl ?_
      show Steps p.tables e below (T154.setTop (mkF m 150 #[.val (.long l1), .second, .val (.int w1), .val (.int n1), .val (.int a1), .val (.int t1), .val (.ref b15), .val (.int (3 : Int32)), .val (.int v51), .val (.int v54), .val (.int v57), .val (.int v60), .val (.ref b142), .val (.int v157), .unset, .unset] [(.int v157)])) _
      refine XS.iload X154.here hx rfl (hb hby at_150) rfl ?_
      show Steps p.tables e below (T154.setTop (mkF m 152 #[.val (.long l1), .second, .val (.int w1), .val (.int n1), .val (.int a1), .val (.int t1), .val (.ref b15), .val (.int (3 : Int32)), .val (.int v51), .val (.int v54), .val (.int v57), .val (.int v60), .val (.ref b142), .val (.int v157), .unset, .unset] [(.int t1), (.int v157)])) _
      refine X154.ldcInt hx hown (mvT hZ (hw _ (List.mem_of_getElem? (i := 1) rfl))) (g := (mkF m 152 #[.val (.long l1), .second, .val (.int w1), .val (.int n1), .val (.int a1), .val (.int t1), .val (.ref b15), .val (.int (3 : Int32)), .val (.int v51), .val (.int v54), .val (.int v57), .val (.int v60), .val (.ref b142), .val (.int v157), .unset, .unset] [(.int t1), (.int v157)])) rfl (hb hby at_152) _ ?_
      show Steps p.tables e below (T154.setTop (mkF m 154 #[.val (.long l1), .second, .val (.int w1), .val (.int n1), .val (.int a1), .val (.int t1), .val (.ref b15), .val (.int (3 : Int32)), .val (.int v51), .val (.int v54), .val (.int v57), .val (.int v60), .val (.ref b142), .val (.int v157), .unset, .unset] [(.int (2147483647 : Int32)), (.int t1), (.int v157)])) _
      refine XS.iand X154.here hx rfl (hb hby at_154) rfl ?_
      show Steps p.tables e below (T154.setTop (mkF m 155 #[.val (.long l1), .second, .val (.int w1), .val (.int n1), .val (.int a1), .val (.int t1), .val (.ref b15), .val (.int (3 : Int32)), .val (.int v51), .val (.int v54), .val (.int v57), .val (.int v60), .val (.ref b142), .val (.int v157), .unset, .unset] [(.int (t1 &&& (2147483647 : Int32))), (.int v157)])) _
      refine XS.bipush X154.here hx rfl (hb hby at_155) ?_
      show Steps p.tables e below (T154.setTop (mkF m 157 #[.val (.long l1), .second, .val (.int w1), .val (.int n1), .val (.int a1), .val (.int t1), .val (.ref b15), .val (.int (3 : Int32)), .val (.int v51), .val (.int v54), .val (.int v57), .val (.int v60), .val (.ref b142), .val (.int v157), .unset, .unset] [(.int (6 : Int32)), (.int (t1 &&& (2147483647 : Int32))), (.int v157)])) _
      refine XS.iload X154.here hx rfl (hb hby at_157) rfl ?_
      show Steps p.tables e below (T154.setTop (mkF m 159 #[.val (.long l1), .second, .val (.int w1), .val (.int n1), .val (.int a1), .val (.int t1), .val (.ref b15), .val (.int (3 : Int32)), .val (.int v51), .val (.int v54), .val (.int v57), .val (.int v60), .val (.ref b142), .val (.int v157), .unset, .unset] [(.int v157), (.int (6 : Int32)), (.int (t1 &&& (2147483647 : Int32))), (.int v157)])) _
      refine XS.isub X154.here hx rfl (hb hby at_159) rfl ?_
      show Steps p.tables e below (T154.setTop (mkF m 160 #[.val (.long l1), .second, .val (.int w1), .val (.int n1), .val (.int a1), .val (.int t1), .val (.ref b15), .val (.int (3 : Int32)), .val (.int v51), .val (.int v54), .val (.int v57), .val (.int v60), .val (.ref b142), .val (.int v157), .unset, .unset] [(.int ((6 : Int32) - v157)), (.int (t1 &&& (2147483647 : Int32))), (.int v157)])) _
      refine iremM X154 hx rfl (hb hby at_160) rfl (own_six_ne hat han) ?_
      show Steps p.tables e below (T154.setTop (mkF m 161 #[.val (.long l1), .second, .val (.int w1), .val (.int n1), .val (.int a1), .val (.int t1), .val (.ref b15), .val (.int (3 : Int32)), .val (.int v51), .val (.int v54), .val (.int v57), .val (.int v60), .val (.ref b142), .val (.int v157), .unset, .unset] [(.int ((t1 &&& (2147483647 : Int32)) % ((6 : Int32) - v157))), (.int v157)])) _
      refine XS.iadd X154.here hx rfl (hb hby at_161) rfl ?_
      exact kt
    obtain ⟨v160, hv160⟩ : ∃ z : Int32, z = (v157 + ((t1 &&& (2147483647 : Int32)) % ((6 : Int32) - v157))) := ⟨_, rfl⟩
    have S162 : ∀ t, Steps p.tables e below (T154.setTop (mkF m 162 #[.val (.long l1), .second, .val (.int w1), .val (.int n1), .val (.int a1), .val (.int t1), .val (.ref b15), .val (.int (3 : Int32)), .val (.int v51), .val (.int v54), .val (.int v57), .val (.int v60), .val (.ref b142), .val (.int v157), .unset, .unset] [(.int v160)])) t → Steps p.tables e below (T154.setTop (mkF m 162 #[.val (.long l1), .second, .val (.int w1), .val (.int n1), .val (.int a1), .val (.int t1), .val (.ref b15), .val (.int (3 : Int32)), .val (.int v51), .val (.int v54), .val (.int v57), .val (.int v60), .val (.ref b142), .val (.int v157), .unset, .unset] [(.int (v157 + ((t1 &&& (2147483647 : Int32)) % ((6 : Int32) - v157))))])) t := fun t k => by rw [hv160.symm]; exact k
    obtain ⟨tn, hto, hle, htn, hdd⟩ := own_to_in _ _ _ hat han hv160
    have f163 := ((((V45'.ext E142).other W146 ne_b15_b142).other W150 ne_b15_b142).other W154 ne_b15_b142)
    have S164 : ∀ t, Steps p.tables e below (T154.setTop (mkF m 171 #[.val (.long l1), .second, .val (.int w1), .val (.int n1), .val (.int a1), .val (.int t1), .val (.ref b15), .val (.int (3 : Int32)), .val (.int v51), .val (.int v54), .val (.int v57), .val (.int v60), .val (.ref b142), .val (.int v157), .val (.int v160), .unset] [(.int (v160 - v157)), (.int (3 : Int32))])) t → Steps p.tables e below (T154.setTop (mkF m 162 #[.val (.long l1), .second, .val (.int w1), .val (.int n1), .val (.int a1), .val (.int t1), .val (.ref b15), .val (.int (3 : Int32)), .val (.int v51), .val (.int v54), .val (.int v57), .val (.int v60), .val (.ref b142), .val (.int v157), .unset, .unset] [(.int v160)])) t := by
      intro t kt
      show Steps p.tables e below (T154.setTop (mkF m 162 #[.val (.long l1), .second, .val (.int w1), .val (.int n1), .val (.int a1), .val (.int t1), .val (.ref b15), .val (.int (3 : Int32)), .val (.int v51), .val (.int v54), .val (.int v57), .val (.int v60), .val (.ref b142), .val (.int v157), .unset, .unset] [(.int v160)])) _
      refine XS.istore X154.here hx rfl (hb hby at_162) rfl (l' := #[.val (.long l1), .second, .val (.int w1), .val (.int n1), .val (.int a1), .val (.int t1), .val (.ref b15), .val (.int (3 : Int32)), .val (.int v51), .val (.int v54), .val (.int v57), .val (.int v60), .val (.ref b142), .val (.int v157), .val (.int v160), .unset]) rfl ?_
      show Steps p.tables e below (T154.setTop (mkF m 164 #[.val (.long l1), .second, .val (.int w1), .val (.int n1), .val (.int a1), .val (.int t1), .val (.ref b15), .val (.int (3 : Int32)), .val (.int v51), .val (.int v54), .val (.int v57), .val (.int v60), .val (.ref b142), .val (.int v157), .val (.int v160), .unset] [])) _
      refine XS.iload X154.here hx rfl (hb hby at_164) rfl ?_
      show Steps p.tables e below (T154.setTop (mkF m 166 #[.val (.long l1), .second, .val (.int w1), .val (.int n1), .val (.int a1), .val (.int t1), .val (.ref b15), .val (.int (3 : Int32)), .val (.int v51), .val (.int v54), .val (.int v57), .val (.int v60), .val (.ref b142), .val (.int v157), .val (.int v160), .unset] [(.int (3 : Int32))])) _
      refine XS.iload X154.here hx rfl (hb hby at_166) rfl ?_
      show Steps p.tables e below (T154.setTop (mkF m 168 #[.val (.long l1), .second, .val (.int w1), .val (.int n1), .val (.int a1), .val (.int t1), .val (.ref b15), .val (.int (3 : Int32)), .val (.int v51), .val (.int v54), .val (.int v57), .val (.int v60), .val (.ref b142), .val (.int v157), .val (.int v160), .unset] [(.int v160), (.int (3 : Int32))])) _
      refine XS.iload X154.here hx rfl (hb hby at_168) rfl ?_
      show Steps p.tables e below (T154.setTop (mkF m 170 #[.val (.long l1), .second, .val (.int w1), .val (.int n1), .val (.int a1), .val (.int t1), .val (.ref b15), .val (.int (3 : Int32)), .val (.int v51), .val (.int v54), .val (.int v57), .val (.int v60), .val (.ref b142), .val (.int v157), .val (.int v160), .unset] [(.int v157), (.int v160), (.int (3 : Int32))])) _
      refine XS.isub X154.here hx rfl (hb hby at_170) rfl ?_
      exact kt
    obtain ⟨v170, hv170⟩ : ∃ z : Int32, z = (if (v160 - v157) < (3 : Int32) then (0 : Int32) else (if (own_l5 v18 v24 v30 v36 v42 an) = v51 then (if (own_l5 v18 v24 v30 v36 v42 (an + 1)) = v54 then (if (own_l5 v18 v24 v30 v36 v42 (an + 2)) = v57 then (1 : Int32) else (0 : Int32)) else (0 : Int32)) else (0 : Int32))) := ⟨_, rfl⟩
    have S169 : ∀ t, Steps p.tables e below (T154.setTop (mkF m 249 #[.val (.long l1), .second, .val (.int w1), .val (.int n1), .val (.int a1), .val (.int t1), .val (.ref b15), .val (.int (3 : Int32)), .val (.int v51), .val (.int v54), .val (.int v57), .val (.int v60), .val (.ref b142), .val (.int v157), .val (.int v160), .unset] [(.int v170)])) t → Steps p.tables e below (T154.setTop (mkF m 171 #[.val (.long l1), .second, .val (.int w1), .val (.int n1), .val (.int a1), .val (.int t1), .val (.ref b15), .val (.int (3 : Int32)), .val (.int v51), .val (.int v54), .val (.int v57), .val (.int v60), .val (.ref b142), .val (.int v157), .val (.int v160), .unset] [(.int (v160 - v157)), (.int (3 : Int32))])) t := by
      intro t kt
      subst hv170
      by_cases hc165 : (v160 - v157) < (3 : Int32)
      · simp only [if_pos hc165] at kt
        show Steps p.tables e below (T154.setTop (mkF m 171 #[.val (.long l1), .second, .val (.int w1), .val (.int n1), .val (.int a1), .val (.int t1), .val (.ref b15), .val (.int (3 : Int32)), .val (.int v51), .val (.int v54), .val (.int v57), .val (.int v60), .val (.ref b142), .val (.int v157), .val (.int v160), .unset] [(.int (v160 - v157)), (.int (3 : Int32))])) _
        refine XS.icmpYes X154.here hx rfl (pc0 := 171) (pc' := 248) rfl (hb hby at_171) rfl (tlt hc165).2.2.1 (by decide) (by decide) ?_
        show Steps p.tables e below (T154.setTop (mkF m 248 #[.val (.long l1), .second, .val (.int w1), .val (.int n1), .val (.int a1), .val (.int t1), .val (.ref b15), .val (.int (3 : Int32)), .val (.int v51), .val (.int v54), .val (.int v57), .val (.int v60), .val (.ref b142), .val (.int v157), .val (.int v160), .unset] [])) _
        refine XS.iconst X154.here hx rfl (hb hby at_248) ?_
        exact kt
      · by_cases hc166 : (own_l5 v18 v24 v30 v36 v42 an) = v51
        · by_cases hc167 : (own_l5 v18 v24 v30 v36 v42 (an + 1)) = v54
          · by_cases hc168 : (own_l5 v18 v24 v30 v36 v42 (an + 2)) = v57
            · simp only [if_neg hc165, if_pos hc166, if_pos hc167, if_pos hc168] at kt
              show Steps p.tables e below (T154.setTop (mkF m 171 #[.val (.long l1), .second, .val (.int w1), .val (.int n1), .val (.int a1), .val (.int t1), .val (.ref b15), .val (.int (3 : Int32)), .val (.int v51), .val (.int v54), .val (.int v57), .val (.int v60), .val (.ref b142), .val (.int v157), .val (.int v160), .unset] [(.int (v160 - v157)), (.int (3 : Int32))])) _
              refine XS.icmpNo X154.here hx rfl (hb hby at_171) rfl (flt hc165).2.2.1 ?_
              show Steps p.tables e below (T154.setTop (mkF m 174 #[.val (.long l1), .second, .val (.int w1), .val (.int n1), .val (.int a1), .val (.int t1), .val (.ref b15), .val (.int (3 : Int32)), .val (.int v51), .val (.int v54), .val (.int v57), .val (.int v60), .val (.ref b142), .val (.int v157), .val (.int v160), .unset] [])) _
              refine XS.iload X154.here hx rfl (hb hby at_174) rfl ?_
              show Steps p.tables e below (T154.setTop (mkF m 176 #[.val (.long l1), .second, .val (.int w1), .val (.int n1), .val (.int a1), .val (.int t1), .val (.ref b15), .val (.int (3 : Int32)), .val (.int v51), .val (.int v54), .val (.int v57), .val (.int v60), .val (.ref b142), .val (.int v157), .val (.int v160), .unset] [(.int (3 : Int32))])) _
              refine XS.iconst X154.here hx rfl (hb hby at_176) ?_
              show Steps p.tables e below (T154.setTop (mkF m 177 #[.val (.long l1), .second, .val (.int w1), .val (.int n1), .val (.int a1), .val (.int t1), .val (.ref b15), .val (.int (3 : Int32)), .val (.int v51), .val (.int v54), .val (.int v57), .val (.int v60), .val (.ref b142), .val (.int v157), .val (.int v160), .unset] [(.int (1 : Int32)), (.int (3 : Int32))])) _
              refine XS.icmpNo X154.here hx rfl (hb hby at_177) rfl (flt (by decide)).1 ?_
              show Steps p.tables e below (T154.setTop (mkF m 180 #[.val (.long l1), .second, .val (.int w1), .val (.int n1), .val (.int a1), .val (.int t1), .val (.ref b15), .val (.int (3 : Int32)), .val (.int v51), .val (.int v54), .val (.int v57), .val (.int v60), .val (.ref b142), .val (.int v157), .val (.int v160), .unset] [])) _
              refine XS.aload X154.here hx rfl (hb hby at_180) rfl rfl ?_
              show Steps p.tables e below (T154.setTop (mkF m 182 #[.val (.long l1), .second, .val (.int w1), .val (.int n1), .val (.int a1), .val (.int t1), .val (.ref b15), .val (.int (3 : Int32)), .val (.int v51), .val (.int v54), .val (.int v57), .val (.int v60), .val (.ref b142), .val (.int v157), .val (.int v160), .unset] [(.ref b15)])) _
              refine XS.iload X154.here hx rfl (hb hby at_182) rfl ?_
              show Steps p.tables e below (T154.setTop (mkF m 184 #[.val (.long l1), .second, .val (.int w1), .val (.int n1), .val (.int a1), .val (.int t1), .val (.ref b15), .val (.int (3 : Int32)), .val (.int v51), .val (.int v54), .val (.int v57), .val (.int v60), .val (.ref b142), .val (.int v157), .val (.int v160), .unset] [(.int v157), (.ref b15)])) _
              refine ArF.ldB X154 hx hZ e154 f163 (i := an) hat (by have := (own_bd hdd htn (k := 3) (by decide) hc165); omega) (v := (own_l5 v18 v24 v30 v36 v42 an)) rfl (g := (mkF m 184 #[.val (.long l1), .second, .val (.int w1), .val (.int n1), .val (.int a1), .val (.int t1), .val (.ref b15), .val (.int (3 : Int32)), .val (.int v51), .val (.int v54), .val (.int v57), .val (.int v60), .val (.ref b142), .val (.int v157), .val (.int v160), .unset] [(.int v157), (.ref b15)])) rfl rfl (hb hby at_184) _ ?_
              show Steps p.tables e below (T154.setTop (mkF m 185 #[.val (.long l1), .second, .val (.int w1), .val (.int n1), .val (.int a1), .val (.int t1), .val (.ref b15), .val (.int (3 : Int32)), .val (.int v51), .val (.int v54), .val (.int v57), .val (.int v60), .val (.ref b142), .val (.int v157), .val (.int v160), .unset] [(.int (own_l5 v18 v24 v30 v36 v42 an))])) _
              refine XS.iload X154.here hx rfl (hb hby at_185) rfl ?_
              show Steps p.tables e below (T154.setTop (mkF m 187 #[.val (.long l1), .second, .val (.int w1), .val (.int n1), .val (.int a1), .val (.int t1), .val (.ref b15), .val (.int (3 : Int32)), .val (.int v51), .val (.int v54), .val (.int v57), .val (.int v60), .val (.ref b142), .val (.int v157), .val (.int v160), .unset] [(.int v51), (.int (own_l5 v18 v24 v30 v36 v42 an))])) _
              refine XS.icmpNo X154.here hx rfl (hb hby at_187) rfl (teq hc166).2 ?_
              show Steps p.tables e below (T154.setTop (mkF m 190 #[.val (.long l1), .second, .val (.int w1), .val (.int n1), .val (.int a1), .val (.int t1), .val (.ref b15), .val (.int (3 : Int32)), .val (.int v51), .val (.int v54), .val (.int v57), .val (.int v60), .val (.ref b142), .val (.int v157), .val (.int v160), .unset] [])) _
              refine XS.iload X154.here hx rfl (hb hby at_190) rfl ?_
              show Steps p.tables e below (T154.setTop (mkF m 192 #[.val (.long l1), .second, .val (.int w1), .val (.int n1), .val (.int a1), .val (.int t1), .val (.ref b15), .val (.int (3 : Int32)), .val (.int v51), .val (.int v54), .val (.int v57), .val (.int v60), .val (.ref b142), .val (.int v157), .val (.int v160), .unset] [(.int (3 : Int32))])) _
              refine XS.iconst X154.here hx rfl (hb hby at_192) ?_
              show Steps p.tables e below (T154.setTop (mkF m 193 #[.val (.long l1), .second, .val (.int w1), .val (.int n1), .val (.int a1), .val (.int t1), .val (.ref b15), .val (.int (3 : Int32)), .val (.int v51), .val (.int v54), .val (.int v57), .val (.int v60), .val (.ref b142), .val (.int v157), .val (.int v160), .unset] [(.int (2 : Int32)), (.int (3 : Int32))])) _
              refine XS.icmpNo X154.here hx rfl (hb hby at_193) rfl (flt (by decide)).1 ?_
              show Steps p.tables e below (T154.setTop (mkF m 196 #[.val (.long l1), .second, .val (.int w1), .val (.int n1), .val (.int a1), .val (.int t1), .val (.ref b15), .val (.int (3 : Int32)), .val (.int v51), .val (.int v54), .val (.int v57), .val (.int v60), .val (.ref b142), .val (.int v157), .val (.int v160), .unset] [])) _
              refine XS.aload X154.here hx rfl (hb hby at_196) rfl rfl ?_
              show Steps p.tables e below (T154.setTop (mkF m 198 #[.val (.long l1), .second, .val (.int w1), .val (.int n1), .val (.int a1), .val (.int t1), .val (.ref b15), .val (.int (3 : Int32)), .val (.int v51), .val (.int v54), .val (.int v57), .val (.int v60), .val (.ref b142), .val (.int v157), .val (.int v160), .unset] [(.ref b15)])) _
              refine XS.iload X154.here hx rfl (hb hby at_198) rfl ?_
              show Steps p.tables e below (T154.setTop (mkF m 200 #[.val (.long l1), .second, .val (.int w1), .val (.int n1), .val (.int a1), .val (.int t1), .val (.ref b15), .val (.int (3 : Int32)), .val (.int v51), .val (.int v54), .val (.int v57), .val (.int v60), .val (.ref b142), .val (.int v157), .val (.int v160), .unset] [(.int v157), (.ref b15)])) _
              refine XS.iconst X154.here hx rfl (hb hby at_200) ?_
              show Steps p.tables e below (T154.setTop (mkF m 201 #[.val (.long l1), .second, .val (.int w1), .val (.int n1), .val (.int a1), .val (.int t1), .val (.ref b15), .val (.int (3 : Int32)), .val (.int v51), .val (.int v54), .val (.int v57), .val (.int v60), .val (.ref b142), .val (.int v157), .val (.int v160), .unset] [(.int (1 : Int32)), (.int v157), (.ref b15)])) _
              refine XS.iadd X154.here hx rfl (hb hby at_201) rfl ?_
              show Steps p.tables e below (T154.setTop (mkF m 202 #[.val (.long l1), .second, .val (.int w1), .val (.int n1), .val (.int a1), .val (.int t1), .val (.ref b15), .val (.int (3 : Int32)), .val (.int v51), .val (.int v54), .val (.int v57), .val (.int v60), .val (.ref b142), .val (.int v157), .val (.int v160), .unset] [(.int (v157 + (1 : Int32))), (.ref b15)])) _
              refine ArF.ldB X154 hx hZ e154 f163 (i := (an + 1)) (own_plus hat (by omega) (i := 1) (by decide) (by omega)) (by have := (own_bd hdd htn (k := 3) (by decide) hc165); omega) (v := (own_l5 v18 v24 v30 v36 v42 (an + 1))) rfl (g := (mkF m 202 #[.val (.long l1), .second, .val (.int w1), .val (.int n1), .val (.int a1), .val (.int t1), .val (.ref b15), .val (.int (3 : Int32)), .val (.int v51), .val (.int v54), .val (.int v57), .val (.int v60), .val (.ref b142), .val (.int v157), .val (.int v160), .unset] [(.int (v157 + (1 : Int32))), (.ref b15)])) rfl rfl (hb hby at_202) _ ?_
              show Steps p.tables e below (T154.setTop (mkF m 203 #[.val (.long l1), .second, .val (.int w1), .val (.int n1), .val (.int a1), .val (.int t1), .val (.ref b15), .val (.int (3 : Int32)), .val (.int v51), .val (.int v54), .val (.int v57), .val (.int v60), .val (.ref b142), .val (.int v157), .val (.int v160), .unset] [(.int (own_l5 v18 v24 v30 v36 v42 (an + 1)))])) _
              refine XS.iload X154.here hx rfl (hb hby at_203) rfl ?_
              show Steps p.tables e below (T154.setTop (mkF m 205 #[.val (.long l1), .second, .val (.int w1), .val (.int n1), .val (.int a1), .val (.int t1), .val (.ref b15), .val (.int (3 : Int32)), .val (.int v51), .val (.int v54), .val (.int v57), .val (.int v60), .val (.ref b142), .val (.int v157), .val (.int v160), .unset] [(.int v54), (.int (own_l5 v18 v24 v30 v36 v42 (an + 1)))])) _
              refine XS.icmpNo X154.here hx rfl (hb hby at_205) rfl (teq hc167).2 ?_
              show Steps p.tables e below (T154.setTop (mkF m 208 #[.val (.long l1), .second, .val (.int w1), .val (.int n1), .val (.int a1), .val (.int t1), .val (.ref b15), .val (.int (3 : Int32)), .val (.int v51), .val (.int v54), .val (.int v57), .val (.int v60), .val (.ref b142), .val (.int v157), .val (.int v160), .unset] [])) _
              refine XS.iload X154.here hx rfl (hb hby at_208) rfl ?_
              show Steps p.tables e below (T154.setTop (mkF m 210 #[.val (.long l1), .second, .val (.int w1), .val (.int n1), .val (.int a1), .val (.int t1), .val (.ref b15), .val (.int (3 : Int32)), .val (.int v51), .val (.int v54), .val (.int v57), .val (.int v60), .val (.ref b142), .val (.int v157), .val (.int v160), .unset] [(.int (3 : Int32))])) _
              refine XS.iconst X154.here hx rfl (hb hby at_210) ?_
              show Steps p.tables e below (T154.setTop (mkF m 211 #[.val (.long l1), .second, .val (.int w1), .val (.int n1), .val (.int a1), .val (.int t1), .val (.ref b15), .val (.int (3 : Int32)), .val (.int v51), .val (.int v54), .val (.int v57), .val (.int v60), .val (.ref b142), .val (.int v157), .val (.int v160), .unset] [(.int (3 : Int32)), (.int (3 : Int32))])) _
              refine XS.icmpNo X154.here hx rfl (hb hby at_211) rfl (flt (by decide)).1 ?_
              show Steps p.tables e below (T154.setTop (mkF m 214 #[.val (.long l1), .second, .val (.int w1), .val (.int n1), .val (.int a1), .val (.int t1), .val (.ref b15), .val (.int (3 : Int32)), .val (.int v51), .val (.int v54), .val (.int v57), .val (.int v60), .val (.ref b142), .val (.int v157), .val (.int v160), .unset] [])) _
              refine XS.aload X154.here hx rfl (hb hby at_214) rfl rfl ?_
              show Steps p.tables e below (T154.setTop (mkF m 216 #[.val (.long l1), .second, .val (.int w1), .val (.int n1), .val (.int a1), .val (.int t1), .val (.ref b15), .val (.int (3 : Int32)), .val (.int v51), .val (.int v54), .val (.int v57), .val (.int v60), .val (.ref b142), .val (.int v157), .val (.int v160), .unset] [(.ref b15)])) _
              refine XS.iload X154.here hx rfl (hb hby at_216) rfl ?_
              show Steps p.tables e below (T154.setTop (mkF m 218 #[.val (.long l1), .second, .val (.int w1), .val (.int n1), .val (.int a1), .val (.int t1), .val (.ref b15), .val (.int (3 : Int32)), .val (.int v51), .val (.int v54), .val (.int v57), .val (.int v60), .val (.ref b142), .val (.int v157), .val (.int v160), .unset] [(.int v157), (.ref b15)])) _
              refine XS.iconst X154.here hx rfl (hb hby at_218) ?_
              show Steps p.tables e below (T154.setTop (mkF m 219 #[.val (.long l1), .second, .val (.int w1), .val (.int n1), .val (.int a1), .val (.int t1), .val (.ref b15), .val (.int (3 : Int32)), .val (.int v51), .val (.int v54), .val (.int v57), .val (.int v60), .val (.ref b142), .val (.int v157), .val (.int v160), .unset] [(.int (2 : Int32)), (.int v157), (.ref b15)])) _
              refine XS.iadd X154.here hx rfl (hb hby at_219) rfl ?_
              show Steps p.tables e below (T154.setTop (mkF m 220 #[.val (.long l1), .second, .val (.int w1), .val (.int n1), .val (.int a1), .val (.int t1), .val (.ref b15), .val (.int (3 : Int32)), .val (.int v51), .val (.int v54), .val (.int v57), .val (.int v60), .val (.ref b142), .val (.int v157), .val (.int v160), .unset] [(.int (v157 + (2 : Int32))), (.ref b15)])) _
              refine ArF.ldB X154 hx hZ e154 f163 (i := (an + 2)) (own_plus hat (by omega) (i := 2) (by decide) (by omega)) (by have := (own_bd hdd htn (k := 3) (by decide) hc165); omega) (v := (own_l5 v18 v24 v30 v36 v42 (an + 2))) rfl (g := (mkF m 220 #[.val (.long l1), .second, .val (.int w1), .val (.int n1), .val (.int a1), .val (.int t1), .val (.ref b15), .val (.int (3 : Int32)), .val (.int v51), .val (.int v54), .val (.int v57), .val (.int v60), .val (.ref b142), .val (.int v157), .val (.int v160), .unset] [(.int (v157 + (2 : Int32))), (.ref b15)])) rfl rfl (hb hby at_220) _ ?_
              show Steps p.tables e below (T154.setTop (mkF m 221 #[.val (.long l1), .second, .val (.int w1), .val (.int n1), .val (.int a1), .val (.int t1), .val (.ref b15), .val (.int (3 : Int32)), .val (.int v51), .val (.int v54), .val (.int v57), .val (.int v60), .val (.ref b142), .val (.int v157), .val (.int v160), .unset] [(.int (own_l5 v18 v24 v30 v36 v42 (an + 2)))])) _
              refine XS.iload X154.here hx rfl (hb hby at_221) rfl ?_
              show Steps p.tables e below (T154.setTop (mkF m 223 #[.val (.long l1), .second, .val (.int w1), .val (.int n1), .val (.int a1), .val (.int t1), .val (.ref b15), .val (.int (3 : Int32)), .val (.int v51), .val (.int v54), .val (.int v57), .val (.int v60), .val (.ref b142), .val (.int v157), .val (.int v160), .unset] [(.int v57), (.int (own_l5 v18 v24 v30 v36 v42 (an + 2)))])) _
              refine XS.icmpNo X154.here hx rfl (hb hby at_223) rfl (teq hc168).2 ?_
              show Steps p.tables e below (T154.setTop (mkF m 226 #[.val (.long l1), .second, .val (.int w1), .val (.int n1), .val (.int a1), .val (.int t1), .val (.ref b15), .val (.int (3 : Int32)), .val (.int v51), .val (.int v54), .val (.int v57), .val (.int v60), .val (.ref b142), .val (.int v157), .val (.int v160), .unset] [])) _
              refine XS.iload X154.here hx rfl (hb hby at_226) rfl ?_
              show Steps p.tables e below (T154.setTop (mkF m 228 #[.val (.long l1), .second, .val (.int w1), .val (.int n1), .val (.int a1), .val (.int t1), .val (.ref b15), .val (.int (3 : Int32)), .val (.int v51), .val (.int v54), .val (.int v57), .val (.int v60), .val (.ref b142), .val (.int v157), .val (.int v160), .unset] [(.int (3 : Int32))])) _
              refine XS.iconst X154.here hx rfl (hb hby at_228) ?_
              show Steps p.tables e below (T154.setTop (mkF m 229 #[.val (.long l1), .second, .val (.int w1), .val (.int n1), .val (.int a1), .val (.int t1), .val (.ref b15), .val (.int (3 : Int32)), .val (.int v51), .val (.int v54), .val (.int v57), .val (.int v60), .val (.ref b142), .val (.int v157), .val (.int v160), .unset] [(.int (4 : Int32)), (.int (3 : Int32))])) _
              refine XS.icmpYes X154.here hx rfl (pc0 := 229) (pc' := 244) rfl (hb hby at_229) rfl (tlt (by decide)).1 (by decide) (by decide) ?_
              show Steps p.tables e below (T154.setTop (mkF m 244 #[.val (.long l1), .second, .val (.int w1), .val (.int n1), .val (.int a1), .val (.int t1), .val (.ref b15), .val (.int (3 : Int32)), .val (.int v51), .val (.int v54), .val (.int v57), .val (.int v60), .val (.ref b142), .val (.int v157), .val (.int v160), .unset] [])) _
              refine XS.iconst X154.here hx rfl (hb hby at_244) ?_
              show Steps p.tables e below (T154.setTop (mkF m 245 #[.val (.long l1), .second, .val (.int w1), .val (.int n1), .val (.int a1), .val (.int t1), .val (.ref b15), .val (.int (3 : Int32)), .val (.int v51), .val (.int v54), .val (.int v57), .val (.int v60), .val (.ref b142), .val (.int v157), .val (.int v160), .unset] [(.int (1 : Int32))])) _
              refine XS.goto X154.here hx rfl (pc0 := 245) (pc' := 249) rfl (hb hby at_245) (by decide) (by decide) ?_
              exact kt
            · simp only [if_neg hc165, if_pos hc166, if_pos hc167, if_neg hc168] at kt
              show Steps p.tables e below (T154.setTop (mkF m 171 #[.val (.long l1), .second, .val (.int w1), .val (.int n1), .val (.int a1), .val (.int t1), .val (.ref b15), .val (.int (3 : Int32)), .val (.int v51), .val (.int v54), .val (.int v57), .val (.int v60), .val (.ref b142), .val (.int v157), .val (.int v160), .unset] [(.int (v160 - v157)), (.int (3 : Int32))])) _
              refine XS.icmpNo X154.here hx rfl (hb hby at_171) rfl (flt hc165).2.2.1 ?_
              show Steps p.tables e below (T154.setTop (mkF m 174 #[.val (.long l1), .second, .val (.int w1), .val (.int n1), .val (.int a1), .val (.int t1), .val (.ref b15), .val (.int (3 : Int32)), .val (.int v51), .val (.int v54), .val (.int v57), .val (.int v60), .val (.ref b142), .val (.int v157), .val (.int v160), .unset] [])) _
              refine XS.iload X154.here hx rfl (hb hby at_174) rfl ?_
              show Steps p.tables e below (T154.setTop (mkF m 176 #[.val (.long l1), .second, .val (.int w1), .val (.int n1), .val (.int a1), .val (.int t1), .val (.ref b15), .val (.int (3 : Int32)), .val (.int v51), .val (.int v54), .val (.int v57), .val (.int v60), .val (.ref b142), .val (.int v157), .val (.int v160), .unset] [(.int (3 : Int32))])) _
              refine XS.iconst X154.here hx rfl (hb hby at_176) ?_
              show Steps p.tables e below (T154.setTop (mkF m 177 #[.val (.long l1), .second, .val (.int w1), .val (.int n1), .val (.int a1), .val (.int t1), .val (.ref b15), .val (.int (3 : Int32)), .val (.int v51), .val (.int v54), .val (.int v57), .val (.int v60), .val (.ref b142), .val (.int v157), .val (.int v160), .unset] [(.int (1 : Int32)), (.int (3 : Int32))])) _
              refine XS.icmpNo X154.here hx rfl (hb hby at_177) rfl (flt (by decide)).1 ?_
              show Steps p.tables e below (T154.setTop (mkF m 180 #[.val (.long l1), .second, .val (.int w1), .val (.int n1), .val (.int a1), .val (.int t1), .val (.ref b15), .val (.int (3 : Int32)), .val (.int v51), .val (.int v54), .val (.int v57), .val (.int v60), .val (.ref b142), .val (.int v157), .val (.int v160), .unset] [])) _
              refine XS.aload X154.here hx rfl (hb hby at_180) rfl rfl ?_
              show Steps p.tables e below (T154.setTop (mkF m 182 #[.val (.long l1), .second, .val (.int w1), .val (.int n1), .val (.int a1), .val (.int t1), .val (.ref b15), .val (.int (3 : Int32)), .val (.int v51), .val (.int v54), .val (.int v57), .val (.int v60), .val (.ref b142), .val (.int v157), .val (.int v160), .unset] [(.ref b15)])) _
              refine XS.iload X154.here hx rfl (hb hby at_182) rfl ?_
              show Steps p.tables e below (T154.setTop (mkF m 184 #[.val (.long l1), .second, .val (.int w1), .val (.int n1), .val (.int a1), .val (.int t1), .val (.ref b15), .val (.int (3 : Int32)), .val (.int v51), .val (.int v54), .val (.int v57), .val (.int v60), .val (.ref b142), .val (.int v157), .val (.int v160), .unset] [(.int v157), (.ref b15)])) _
              refine ArF.ldB X154 hx hZ e154 f163 (i := an) hat (by have := (own_bd hdd htn (k := 3) (by decide) hc165); omega) (v := (own_l5 v18 v24 v30 v36 v42 an)) rfl (g := (mkF m 184 #[.val (.long l1), .second, .val (.int w1), .val (.int n1), .val (.int a1), .val (.int t1), .val (.ref b15), .val (.int (3 : Int32)), .val (.int v51), .val (.int v54), .val (.int v57), .val (.int v60), .val (.ref b142), .val (.int v157), .val (.int v160), .unset] [(.int v157), (.ref b15)])) rfl rfl (hb hby at_184) _ ?_
              show Steps p.tables e below (T154.setTop (mkF m 185 #[.val (.long l1), .second, .val (.int w1), .val (.int n1), .val (.int a1), .val (.int t1), .val (.ref b15), .val (.int (3 : Int32)), .val (.int v51), .val (.int v54), .val (.int v57), .val (.int v60), .val (.ref b142), .val (.int v157), .val (.int v160), .unset] [(.int (own_l5 v18 v24 v30 v36 v42 an))])) _
              refine XS.iload X154.here hx rfl (hb hby at_185) rfl ?_
              show Steps p.tables e below (T154.setTop (mkF m 187 #[.val (.long l1), .second, .val (.int w1), .val (.int n1), .val (.int a1), .val (.int t1), .val (.ref b15), .val (.int (3 : Int32)), .val (.int v51), .val (.int v54), .val (.int v57), .val (.int v60), .val (.ref b142), .val (.int v157), .val (.int v160), .unset] [(.int v51), (.int (own_l5 v18 v24 v30 v36 v42 an))])) _
              refine XS.icmpNo X154.here hx rfl (hb hby at_187) rfl (teq hc166).2 ?_
              show Steps p.tables e below (T154.setTop (mkF m 190 #[.val (.long l1), .second, .val (.int w1), .val (.int n1), .val (.int a1), .val (.int t1), .val (.ref b15), .val (.int (3 : Int32)), .val (.int v51), .val (.int v54), .val (.int v57), .val (.int v60), .val (.ref b142), .val (.int v157), .val (.int v160), .unset] [])) _
              refine XS.iload X154.here hx rfl (hb hby at_190) rfl ?_
              show Steps p.tables e below (T154.setTop (mkF m 192 #[.val (.long l1), .second, .val (.int w1), .val (.int n1), .val (.int a1), .val (.int t1), .val (.ref b15), .val (.int (3 : Int32)), .val (.int v51), .val (.int v54), .val (.int v57), .val (.int v60), .val (.ref b142), .val (.int v157), .val (.int v160), .unset] [(.int (3 : Int32))])) _
              refine XS.iconst X154.here hx rfl (hb hby at_192) ?_
              show Steps p.tables e below (T154.setTop (mkF m 193 #[.val (.long l1), .second, .val (.int w1), .val (.int n1), .val (.int a1), .val (.int t1), .val (.ref b15), .val (.int (3 : Int32)), .val (.int v51), .val (.int v54), .val (.int v57), .val (.int v60), .val (.ref b142), .val (.int v157), .val (.int v160), .unset] [(.int (2 : Int32)), (.int (3 : Int32))])) _
              refine XS.icmpNo X154.here hx rfl (hb hby at_193) rfl (flt (by decide)).1 ?_
              show Steps p.tables e below (T154.setTop (mkF m 196 #[.val (.long l1), .second, .val (.int w1), .val (.int n1), .val (.int a1), .val (.int t1), .val (.ref b15), .val (.int (3 : Int32)), .val (.int v51), .val (.int v54), .val (.int v57), .val (.int v60), .val (.ref b142), .val (.int v157), .val (.int v160), .unset] [])) _
              refine XS.aload X154.here hx rfl (hb hby at_196) rfl rfl ?_
              show Steps p.tables e below (T154.setTop (mkF m 198 #[.val (.long l1), .second, .val (.int w1), .val (.int n1), .val (.int a1), .val (.int t1), .val (.ref b15), .val (.int (3 : Int32)), .val (.int v51), .val (.int v54), .val (.int v57), .val (.int v60), .val (.ref b142), .val (.int v157), .val (.int v160), .unset] [(.ref b15)])) _
              refine XS.iload X154.here hx rfl (hb hby at_198) rfl ?_
              show Steps p.tables e below (T154.setTop (mkF m 200 #[.val (.long l1), .second, .val (.int w1), .val (.int n1), .val (.int a1), .val (.int t1), .val (.ref b15), .val (.int (3 : Int32)), .val (.int v51), .val (.int v54), .val (.int v57), .val (.int v60), .val (.ref b142), .val (.int v157), .val (.int v160), .unset] [(.int v157), (.ref b15)])) _
              refine XS.iconst X154.here hx rfl (hb hby at_200) ?_
              show Steps p.tables e below (T154.setTop (mkF m 201 #[.val (.long l1), .second, .val (.int w1), .val (.int n1), .val (.int a1), .val (.int t1), .val (.ref b15), .val (.int (3 : Int32)), .val (.int v51), .val (.int v54), .val (.int v57), .val (.int v60), .val (.ref b142), .val (.int v157), .val (.int v160), .unset] [(.int (1 : Int32)), (.int v157), (.ref b15)])) _
              refine XS.iadd X154.here hx rfl (hb hby at_201) rfl ?_
              show Steps p.tables e below (T154.setTop (mkF m 202 #[.val (.long l1), .second, .val (.int w1), .val (.int n1), .val (.int a1), .val (.int t1), .val (.ref b15), .val (.int (3 : Int32)), .val (.int v51), .val (.int v54), .val (.int v57), .val (.int v60), .val (.ref b142), .val (.int v157), .val (.int v160), .unset] [(.int (v157 + (1 : Int32))), (.ref b15)])) _
              refine ArF.ldB X154 hx hZ e154 f163 (i := (an + 1)) (own_plus hat (by omega) (i := 1) (by decide) (by omega)) (by have := (own_bd hdd htn (k := 3) (by decide) hc165); omega) (v := (own_l5 v18 v24 v30 v36 v42 (an + 1))) rfl (g := (mkF m 202 #[.val (.long l1), .second, .val (.int w1), .val (.int n1), .val (.int a1), .val (.int t1), .val (.ref b15), .val (.int (3 : Int32)), .val (.int v51), .val (.int v54), .val (.int v57), .val (.int v60), .val (.ref b142), .val (.int v157), .val (.int v160), .unset] [(.int (v157 + (1 : Int32))), (.ref b15)])) rfl rfl (hb hby at_202) _ ?_
              show Steps p.tables e below (T154.setTop (mkF m 203 #[.val (.long l1), .second, .val (.int w1), .val (.int n1), .val (.int a1), .val (.int t1), .val (.ref b15), .val (.int (3 : Int32)), .val (.int v51), .val (.int v54), .val (.int v57), .val (.int v60), .val (.ref b142), .val (.int v157), .val (.int v160), .unset] [(.int (own_l5 v18 v24 v30 v36 v42 (an + 1)))])) _
              refine XS.iload X154.here hx rfl (hb hby at_203) rfl ?_
              show Steps p.tables e below (T154.setTop (mkF m 205 #[.val (.long l1), .second, .val (.int w1), .val (.int n1), .val (.int a1), .val (.int t1), .val (.ref b15), .val (.int (3 : Int32)), .val (.int v51), .val (.int v54), .val (.int v57), .val (.int v60), .val (.ref b142), .val (.int v157), .val (.int v160), .unset] [(.int v54), (.int (own_l5 v18 v24 v30 v36 v42 (an + 1)))])) _
              refine XS.icmpNo X154.here hx rfl (hb hby at_205) rfl (teq hc167).2 ?_
              show Steps p.tables e below (T154.setTop (mkF m 208 #[.val (.long l1), .second, .val (.int w1), .val (.int n1), .val (.int a1), .val (.int t1), .val (.ref b15), .val (.int (3 : Int32)), .val (.int v51), .val (.int v54), .val (.int v57), .val (.int v60), .val (.ref b142), .val (.int v157), .val (.int v160), .unset] [])) _
              refine XS.iload X154.here hx rfl (hb hby at_208) rfl ?_
              show Steps p.tables e below (T154.setTop (mkF m 210 #[.val (.long l1), .second, .val (.int w1), .val (.int n1), .val (.int a1), .val (.int t1), .val (.ref b15), .val (.int (3 : Int32)), .val (.int v51), .val (.int v54), .val (.int v57), .val (.int v60), .val (.ref b142), .val (.int v157), .val (.int v160), .unset] [(.int (3 : Int32))])) _
              refine XS.iconst X154.here hx rfl (hb hby at_210) ?_
              show Steps p.tables e below (T154.setTop (mkF m 211 #[.val (.long l1), .second, .val (.int w1), .val (.int n1), .val (.int a1), .val (.int t1), .val (.ref b15), .val (.int (3 : Int32)), .val (.int v51), .val (.int v54), .val (.int v57), .val (.int v60), .val (.ref b142), .val (.int v157), .val (.int v160), .unset] [(.int (3 : Int32)), (.int (3 : Int32))])) _
              refine XS.icmpNo X154.here hx rfl (hb hby at_211) rfl (flt (by decide)).1 ?_
              show Steps p.tables e below (T154.setTop (mkF m 214 #[.val (.long l1), .second, .val (.int w1), .val (.int n1), .val (.int a1), .val (.int t1), .val (.ref b15), .val (.int (3 : Int32)), .val (.int v51), .val (.int v54), .val (.int v57), .val (.int v60), .val (.ref b142), .val (.int v157), .val (.int v160), .unset] [])) _
              refine XS.aload X154.here hx rfl (hb hby at_214) rfl rfl ?_
              show Steps p.tables e below (T154.setTop (mkF m 216 #[.val (.long l1), .second, .val (.int w1), .val (.int n1), .val (.int a1), .val (.int t1), .val (.ref b15), .val (.int (3 : Int32)), .val (.int v51), .val (.int v54), .val (.int v57), .val (.int v60), .val (.ref b142), .val (.int v157), .val (.int v160), .unset] [(.ref b15)])) _
              refine XS.iload X154.here hx rfl (hb hby at_216) rfl ?_
              show Steps p.tables e below (T154.setTop (mkF m 218 #[.val (.long l1), .second, .val (.int w1), .val (.int n1), .val (.int a1), .val (.int t1), .val (.ref b15), .val (.int (3 : Int32)), .val (.int v51), .val (.int v54), .val (.int v57), .val (.int v60), .val (.ref b142), .val (.int v157), .val (.int v160), .unset] [(.int v157), (.ref b15)])) _
              refine XS.iconst X154.here hx rfl (hb hby at_218) ?_
              show Steps p.tables e below (T154.setTop (mkF m 219 #[.val (.long l1), .second, .val (.int w1), .val (.int n1), .val (.int a1), .val (.int t1), .val (.ref b15), .val (.int (3 : Int32)), .val (.int v51), .val (.int v54), .val (.int v57), .val (.int v60), .val (.ref b142), .val (.int v157), .val (.int v160), .unset] [(.int (2 : Int32)), (.int v157), (.ref b15)])) _
              refine XS.iadd X154.here hx rfl (hb hby at_219) rfl ?_
              show Steps p.tables e below (T154.setTop (mkF m 220 #[.val (.long l1), .second, .val (.int w1), .val (.int n1), .val (.int a1), .val (.int t1), .val (.ref b15), .val (.int (3 : Int32)), .val (.int v51), .val (.int v54), .val (.int v57), .val (.int v60), .val (.ref b142), .val (.int v157), .val (.int v160), .unset] [(.int (v157 + (2 : Int32))), (.ref b15)])) _
              refine ArF.ldB X154 hx hZ e154 f163 (i := (an + 2)) (own_plus hat (by omega) (i := 2) (by decide) (by omega)) (by have := (own_bd hdd htn (k := 3) (by decide) hc165); omega) (v := (own_l5 v18 v24 v30 v36 v42 (an + 2))) rfl (g := (mkF m 220 #[.val (.long l1), .second, .val (.int w1), .val (.int n1), .val (.int a1), .val (.int t1), .val (.ref b15), .val (.int (3 : Int32)), .val (.int v51), .val (.int v54), .val (.int v57), .val (.int v60), .val (.ref b142), .val (.int v157), .val (.int v160), .unset] [(.int (v157 + (2 : Int32))), (.ref b15)])) rfl rfl (hb hby at_220) _ ?_
              show Steps p.tables e below (T154.setTop (mkF m 221 #[.val (.long l1), .second, .val (.int w1), .val (.int n1), .val (.int a1), .val (.int t1), .val (.ref b15), .val (.int (3 : Int32)), .val (.int v51), .val (.int v54), .val (.int v57), .val (.int v60), .val (.ref b142), .val (.int v157), .val (.int v160), .unset] [(.int (own_l5 v18 v24 v30 v36 v42 (an + 2)))])) _
              refine XS.iload X154.here hx rfl (hb hby at_221) rfl ?_
              show Steps p.tables e below (T154.setTop (mkF m 223 #[.val (.long l1), .second, .val (.int w1), .val (.int n1), .val (.int a1), .val (.int t1), .val (.ref b15), .val (.int (3 : Int32)), .val (.int v51), .val (.int v54), .val (.int v57), .val (.int v60), .val (.ref b142), .val (.int v157), .val (.int v160), .unset] [(.int v57), (.int (own_l5 v18 v24 v30 v36 v42 (an + 2)))])) _
              refine XS.icmpYes X154.here hx rfl (pc0 := 223) (pc' := 248) rfl (hb hby at_223) rfl (feq hc168).2 (by decide) (by decide) ?_
              show Steps p.tables e below (T154.setTop (mkF m 248 #[.val (.long l1), .second, .val (.int w1), .val (.int n1), .val (.int a1), .val (.int t1), .val (.ref b15), .val (.int (3 : Int32)), .val (.int v51), .val (.int v54), .val (.int v57), .val (.int v60), .val (.ref b142), .val (.int v157), .val (.int v160), .unset] [])) _
              refine XS.iconst X154.here hx rfl (hb hby at_248) ?_
              exact kt
          · simp only [if_neg hc165, if_pos hc166, if_neg hc167] at kt
            show Steps p.tables e below (T154.setTop (mkF m 171 #[.val (.long l1), .second, .val (.int w1), .val (.int n1), .val (.int a1), .val (.int t1), .val (.ref b15), .val (.int (3 : Int32)), .val (.int v51), .val (.int v54), .val (.int v57), .val (.int v60), .val (.ref b142), .val (.int v157), .val (.int v160), .unset] [(.int (v160 - v157)), (.int (3 : Int32))])) _
            refine XS.icmpNo X154.here hx rfl (hb hby at_171) rfl (flt hc165).2.2.1 ?_
            show Steps p.tables e below (T154.setTop (mkF m 174 #[.val (.long l1), .second, .val (.int w1), .val (.int n1), .val (.int a1), .val (.int t1), .val (.ref b15), .val (.int (3 : Int32)), .val (.int v51), .val (.int v54), .val (.int v57), .val (.int v60), .val (.ref b142), .val (.int v157), .val (.int v160), .unset] [])) _
            refine XS.iload X154.here hx rfl (hb hby at_174) rfl ?_
            show Steps p.tables e below (T154.setTop (mkF m 176 #[.val (.long l1), .second, .val (.int w1), .val (.int n1), .val (.int a1), .val (.int t1), .val (.ref b15), .val (.int (3 : Int32)), .val (.int v51), .val (.int v54), .val (.int v57), .val (.int v60), .val (.ref b142), .val (.int v157), .val (.int v160), .unset] [(.int (3 : Int32))])) _
            refine XS.iconst X154.here hx rfl (hb hby at_176) ?_
            show Steps p.tables e below (T154.setTop (mkF m 177 #[.val (.long l1), .second, .val (.int w1), .val (.int n1), .val (.int a1), .val (.int t1), .val (.ref b15), .val (.int (3 : Int32)), .val (.int v51), .val (.int v54), .val (.int v57), .val (.int v60), .val (.ref b142), .val (.int v157), .val (.int v160), .unset] [(.int (1 : Int32)), (.int (3 : Int32))])) _
            refine XS.icmpNo X154.here hx rfl (hb hby at_177) rfl (flt (by decide)).1 ?_
            show Steps p.tables e below (T154.setTop (mkF m 180 #[.val (.long l1), .second, .val (.int w1), .val (.int n1), .val (.int a1), .val (.int t1), .val (.ref b15), .val (.int (3 : Int32)), .val (.int v51), .val (.int v54), .val (.int v57), .val (.int v60), .val (.ref b142), .val (.int v157), .val (.int v160), .unset] [])) _
            refine XS.aload X154.here hx rfl (hb hby at_180) rfl rfl ?_
            show Steps p.tables e below (T154.setTop (mkF m 182 #[.val (.long l1), .second, .val (.int w1), .val (.int n1), .val (.int a1), .val (.int t1), .val (.ref b15), .val (.int (3 : Int32)), .val (.int v51), .val (.int v54), .val (.int v57), .val (.int v60), .val (.ref b142), .val (.int v157), .val (.int v160), .unset] [(.ref b15)])) _
            refine XS.iload X154.here hx rfl (hb hby at_182) rfl ?_
            show Steps p.tables e below (T154.setTop (mkF m 184 #[.val (.long l1), .second, .val (.int w1), .val (.int n1), .val (.int a1), .val (.int t1), .val (.ref b15), .val (.int (3 : Int32)), .val (.int v51), .val (.int v54), .val (.int v57), .val (.int v60), .val (.ref b142), .val (.int v157), .val (.int v160), .unset] [(.int v157), (.ref b15)])) _
            refine ArF.ldB X154 hx hZ e154 f163 (i := an) hat (by have := (own_bd hdd htn (k := 3) (by decide) hc165); omega) (v := (own_l5 v18 v24 v30 v36 v42 an)) rfl (g := (mkF m 184 #[.val (.long l1), .second, .val (.int w1), .val (.int n1), .val (.int a1), .val (.int t1), .val (.ref b15), .val (.int (3 : Int32)), .val (.int v51), .val (.int v54), .val (.int v57), .val (.int v60), .val (.ref b142), .val (.int v157), .val (.int v160), .unset] [(.int v157), (.ref b15)])) rfl rfl (hb hby at_184) _ ?_
            show Steps p.tables e below (T154.setTop (mkF m 185 #[.val (.long l1), .second, .val (.int w1), .val (.int n1), .val (.int a1), .val (.int t1), .val (.ref b15), .val (.int (3 : Int32)), .val (.int v51), .val (.int v54), .val (.int v57), .val (.int v60), .val (.ref b142), .val (.int v157), .val (.int v160), .unset] [(.int (own_l5 v18 v24 v30 v36 v42 an))])) _
            refine XS.iload X154.here hx rfl (hb hby at_185) rfl ?_
            show Steps p.tables e below (T154.setTop (mkF m 187 #[.val (.long l1), .second, .val (.int w1), .val (.int n1), .val (.int a1), .val (.int t1), .val (.ref b15), .val (.int (3 : Int32)), .val (.int v51), .val (.int v54), .val (.int v57), .val (.int v60), .val (.ref b142), .val (.int v157), .val (.int v160), .unset] [(.int v51), (.int (own_l5 v18 v24 v30 v36 v42 an))])) _
            refine XS.icmpNo X154.here hx rfl (hb hby at_187) rfl (teq hc166).2 ?_
            show Steps p.tables e below (T154.setTop (mkF m 190 #[.val (.long l1), .second, .val (.int w1), .val (.int n1), .val (.int a1), .val (.int t1), .val (.ref b15), .val (.int (3 : Int32)), .val (.int v51), .val (.int v54), .val (.int v57), .val (.int v60), .val (.ref b142), .val (.int v157), .val (.int v160), .unset] [])) _
            refine XS.iload X154.here hx rfl (hb hby at_190) rfl ?_
            show Steps p.tables e below (T154.setTop (mkF m 192 #[.val (.long l1), .second, .val (.int w1), .val (.int n1), .val (.int a1), .val (.int t1), .val (.ref b15), .val (.int (3 : Int32)), .val (.int v51), .val (.int v54), .val (.int v57), .val (.int v60), .val (.ref b142), .val (.int v157), .val (.int v160), .unset] [(.int (3 : Int32))])) _
            refine XS.iconst X154.here hx rfl (hb hby at_192) ?_
            show Steps p.tables e below (T154.setTop (mkF m 193 #[.val (.long l1), .second, .val (.int w1), .val (.int n1), .val (.int a1), .val (.int t1), .val (.ref b15), .val (.int (3 : Int32)), .val (.int v51), .val (.int v54), .val (.int v57), .val (.int v60), .val (.ref b142), .val (.int v157), .val (.int v160), .unset] [(.int (2 : Int32)), (.int (3 : Int32))])) _
            refine XS.icmpNo X154.here hx rfl (hb hby at_193) rfl (flt (by decide)).1 ?_
            show Steps p.tables e below (T154.setTop (mkF m 196 #[.val (.long l1), .second, .val (.int w1), .val (.int n1), .val (.int a1), .val (.int t1), .val (.ref b15), .val (.int (3 : Int32)), .val (.int v51), .val (.int v54), .val (.int v57), .val (.int v60), .val (.ref b142), .val (.int v157), .val (.int v160), .unset] [])) _
            refine XS.aload X154.here hx rfl (hb hby at_196) rfl rfl ?_
            show Steps p.tables e below (T154.setTop (mkF m 198 #[.val (.long l1), .second, .val (.int w1), .val (.int n1), .val (.int a1), .val (.int t1), .val (.ref b15), .val (.int (3 : Int32)), .val (.int v51), .val (.int v54), .val (.int v57), .val (.int v60), .val (.ref b142), .val (.int v157), .val (.int v160), .unset] [(.ref b15)])) _
            refine XS.iload X154.here hx rfl (hb hby at_198) rfl ?_
            show Steps p.tables e below (T154.setTop (mkF m 200 #[.val (.long l1), .second, .val (.int w1), .val (.int n1), .val (.int a1), .val (.int t1), .val (.ref b15), .val (.int (3 : Int32)), .val (.int v51), .val (.int v54), .val (.int v57), .val (.int v60), .val (.ref b142), .val (.int v157), .val (.int v160), .unset] [(.int v157), (.ref b15)])) _
            refine XS.iconst X154.here hx rfl (hb hby at_200) ?_
            show Steps p.tables e below (T154.setTop (mkF m 201 #[.val (.long l1), .second, .val (.int w1), .val (.int n1), .val (.int a1), .val (.int t1), .val (.ref b15), .val (.int (3 : Int32)), .val (.int v51), .val (.int v54), .val (.int v57), .val (.int v60), .val (.ref b142), .val (.int v157), .val (.int v160), .unset] [(.int (1 : Int32)), (.int v157), (.ref b15)])) _
            refine XS.iadd X154.here hx rfl (hb hby at_201) rfl ?_
            show Steps p.tables e below (T154.setTop (mkF m 202 #[.val (.long l1), .second, .val (.int w1), .val (.int n1), .val (.int a1), .val (.int t1), .val (.ref b15), .val (.int (3 : Int32)), .val (.int v51), .val (.int v54), .val (.int v57), .val (.int v60), .val (.ref b142), .val (.int v157), .val (.int v160), .unset] [(.int (v157 + (1 : Int32))), (.ref b15)])) _
            refine ArF.ldB X154 hx hZ e154 f163 (i := (an + 1)) (own_plus hat (by omega) (i := 1) (by decide) (by omega)) (by have := (own_bd hdd htn (k := 3) (by decide) hc165); omega) (v := (own_l5 v18 v24 v30 v36 v42 (an + 1))) rfl (g := (mkF m 202 #[.val (.long l1), .second, .val (.int w1), .val (.int n1), .val (.int a1), .val (.int t1), .val (.ref b15), .val (.int (3 : Int32)), .val (.int v51), .val (.int v54), .val (.int v57), .val (.int v60), .val (.ref b142), .val (.int v157), .val (.int v160), .unset] [(.int (v157 + (1 : Int32))), (.ref b15)])) rfl rfl (hb hby at_202) _ ?_
            show Steps p.tables e below (T154.setTop (mkF m 203 #[.val (.long l1), .second, .val (.int w1), .val (.int n1), .val (.int a1), .val (.int t1), .val (.ref b15), .val (.int (3 : Int32)), .val (.int v51), .val (.int v54), .val (.int v57), .val (.int v60), .val (.ref b142), .val (.int v157), .val (.int v160), .unset] [(.int (own_l5 v18 v24 v30 v36 v42 (an + 1)))])) _
            refine XS.iload X154.here hx rfl (hb hby at_203) rfl ?_
            show Steps p.tables e below (T154.setTop (mkF m 205 #[.val (.long l1), .second, .val (.int w1), .val (.int n1), .val (.int a1), .val (.int t1), .val (.ref b15), .val (.int (3 : Int32)), .val (.int v51), .val (.int v54), .val (.int v57), .val (.int v60), .val (.ref b142), .val (.int v157), .val (.int v160), .unset] [(.int v54), (.int (own_l5 v18 v24 v30 v36 v42 (an + 1)))])) _
            refine XS.icmpYes X154.here hx rfl (pc0 := 205) (pc' := 248) rfl (hb hby at_205) rfl (feq hc167).2 (by decide) (by decide) ?_
            show Steps p.tables e below (T154.setTop (mkF m 248 #[.val (.long l1), .second, .val (.int w1), .val (.int n1), .val (.int a1), .val (.int t1), .val (.ref b15), .val (.int (3 : Int32)), .val (.int v51), .val (.int v54), .val (.int v57), .val (.int v60), .val (.ref b142), .val (.int v157), .val (.int v160), .unset] [])) _
            refine XS.iconst X154.here hx rfl (hb hby at_248) ?_
            exact kt
        · simp only [if_neg hc165, if_neg hc166] at kt
          show Steps p.tables e below (T154.setTop (mkF m 171 #[.val (.long l1), .second, .val (.int w1), .val (.int n1), .val (.int a1), .val (.int t1), .val (.ref b15), .val (.int (3 : Int32)), .val (.int v51), .val (.int v54), .val (.int v57), .val (.int v60), .val (.ref b142), .val (.int v157), .val (.int v160), .unset] [(.int (v160 - v157)), (.int (3 : Int32))])) _
          refine XS.icmpNo X154.here hx rfl (hb hby at_171) rfl (flt hc165).2.2.1 ?_
          show Steps p.tables e below (T154.setTop (mkF m 174 #[.val (.long l1), .second, .val (.int w1), .val (.int n1), .val (.int a1), .val (.int t1), .val (.ref b15), .val (.int (3 : Int32)), .val (.int v51), .val (.int v54), .val (.int v57), .val (.int v60), .val (.ref b142), .val (.int v157), .val (.int v160), .unset] [])) _
          refine XS.iload X154.here hx rfl (hb hby at_174) rfl ?_
          show Steps p.tables e below (T154.setTop (mkF m 176 #[.val (.long l1), .second, .val (.int w1), .val (.int n1), .val (.int a1), .val (.int t1), .val (.ref b15), .val (.int (3 : Int32)), .val (.int v51), .val (.int v54), .val (.int v57), .val (.int v60), .val (.ref b142), .val (.int v157), .val (.int v160), .unset] [(.int (3 : Int32))])) _
          refine XS.iconst X154.here hx rfl (hb hby at_176) ?_
          show Steps p.tables e below (T154.setTop (mkF m 177 #[.val (.long l1), .second, .val (.int w1), .val (.int n1), .val (.int a1), .val (.int t1), .val (.ref b15), .val (.int (3 : Int32)), .val (.int v51), .val (.int v54), .val (.int v57), .val (.int v60), .val (.ref b142), .val (.int v157), .val (.int v160), .unset] [(.int (1 : Int32)), (.int (3 : Int32))])) _
          refine XS.icmpNo X154.here hx rfl (hb hby at_177) rfl (flt (by decide)).1 ?_
          show Steps p.tables e below (T154.setTop (mkF m 180 #[.val (.long l1), .second, .val (.int w1), .val (.int n1), .val (.int a1), .val (.int t1), .val (.ref b15), .val (.int (3 : Int32)), .val (.int v51), .val (.int v54), .val (.int v57), .val (.int v60), .val (.ref b142), .val (.int v157), .val (.int v160), .unset] [])) _
          refine XS.aload X154.here hx rfl (hb hby at_180) rfl rfl ?_
          show Steps p.tables e below (T154.setTop (mkF m 182 #[.val (.long l1), .second, .val (.int w1), .val (.int n1), .val (.int a1), .val (.int t1), .val (.ref b15), .val (.int (3 : Int32)), .val (.int v51), .val (.int v54), .val (.int v57), .val (.int v60), .val (.ref b142), .val (.int v157), .val (.int v160), .unset] [(.ref b15)])) _
          refine XS.iload X154.here hx rfl (hb hby at_182) rfl ?_
          show Steps p.tables e below (T154.setTop (mkF m 184 #[.val (.long l1), .second, .val (.int w1), .val (.int n1), .val (.int a1), .val (.int t1), .val (.ref b15), .val (.int (3 : Int32)), .val (.int v51), .val (.int v54), .val (.int v57), .val (.int v60), .val (.ref b142), .val (.int v157), .val (.int v160), .unset] [(.int v157), (.ref b15)])) _
          refine ArF.ldB X154 hx hZ e154 f163 (i := an) hat (by have := (own_bd hdd htn (k := 3) (by decide) hc165); omega) (v := (own_l5 v18 v24 v30 v36 v42 an)) rfl (g := (mkF m 184 #[.val (.long l1), .second, .val (.int w1), .val (.int n1), .val (.int a1), .val (.int t1), .val (.ref b15), .val (.int (3 : Int32)), .val (.int v51), .val (.int v54), .val (.int v57), .val (.int v60), .val (.ref b142), .val (.int v157), .val (.int v160), .unset] [(.int v157), (.ref b15)])) rfl rfl (hb hby at_184) _ ?_
          show Steps p.tables e below (T154.setTop (mkF m 185 #[.val (.long l1), .second, .val (.int w1), .val (.int n1), .val (.int a1), .val (.int t1), .val (.ref b15), .val (.int (3 : Int32)), .val (.int v51), .val (.int v54), .val (.int v57), .val (.int v60), .val (.ref b142), .val (.int v157), .val (.int v160), .unset] [(.int (own_l5 v18 v24 v30 v36 v42 an))])) _
          refine XS.iload X154.here hx rfl (hb hby at_185) rfl ?_
          show Steps p.tables e below (T154.setTop (mkF m 187 #[.val (.long l1), .second, .val (.int w1), .val (.int n1), .val (.int a1), .val (.int t1), .val (.ref b15), .val (.int (3 : Int32)), .val (.int v51), .val (.int v54), .val (.int v57), .val (.int v60), .val (.ref b142), .val (.int v157), .val (.int v160), .unset] [(.int v51), (.int (own_l5 v18 v24 v30 v36 v42 an))])) _
          refine XS.icmpYes X154.here hx rfl (pc0 := 187) (pc' := 248) rfl (hb hby at_187) rfl (feq hc166).2 (by decide) (by decide) ?_
          show Steps p.tables e below (T154.setTop (mkF m 248 #[.val (.long l1), .second, .val (.int w1), .val (.int n1), .val (.int a1), .val (.int t1), .val (.ref b15), .val (.int (3 : Int32)), .val (.int v51), .val (.int v54), .val (.int v57), .val (.int v60), .val (.ref b142), .val (.int v157), .val (.int v160), .unset] [])) _
          refine XS.iconst X154.here hx rfl (hb hby at_248) ?_
          exact kt
    have hva : ArF Z h154 b142 .byte 3 (fun q => (.int ((own_l4 v51 v54 v57 v60) q))) := V154.congr (fun i hi => by rcases (show i = 0 ∨ i = 1 ∨ i = 2 by omega) with rfl | rfl | rfl <;> simp [own_l4, nbv51, nbv54, nbv57, nbv60])
    have S171 : ∀ t, Steps p.tables e below (T154.setTop (mkF m 259 #[.val (.long l1), .second, .val (.int w1), .val (.int n1), .val (.int a1), .val (.int t1), .val (.ref b15), .val (.int (3 : Int32)), .val (.int v51), .val (.int v54), .val (.int v57), .val (.int v60), .val (.ref b142), .val (.int v157), .val (.int v160), .val (.int v170)] [(.ref b142), (.int v160), (.int v157), (.ref b15)])) t → Steps p.tables e below (T154.setTop (mkF m 249 #[.val (.long l1), .second, .val (.int w1), .val (.int n1), .val (.int a1), .val (.int t1), .val (.ref b15), .val (.int (3 : Int32)), .val (.int v51), .val (.int v54), .val (.int v57), .val (.int v60), .val (.ref b142), .val (.int v157), .val (.int v160), .unset] [(.int v170)])) t := by
      intro t kt
      show Steps p.tables e below (T154.setTop (mkF m 249 #[.val (.long l1), .second, .val (.int w1), .val (.int n1), .val (.int a1), .val (.int t1), .val (.ref b15), .val (.int (3 : Int32)), .val (.int v51), .val (.int v54), .val (.int v57), .val (.int v60), .val (.ref b142), .val (.int v157), .val (.int v160), .unset] [(.int v170)])) _
      refine XS.istore X154.here hx rfl (hb hby at_249) rfl (l' := #[.val (.long l1), .second, .val (.int w1), .val (.int n1), .val (.int a1), .val (.int t1), .val (.ref b15), .val (.int (3 : Int32)), .val (.int v51), .val (.int v54), .val (.int v57), .val (.int v60), .val (.ref b142), .val (.int v157), .val (.int v160), .val (.int v170)]) rfl ?_
      show Steps p.tables e below (T154.setTop (mkF m 251 #[.val (.long l1), .second, .val (.int w1), .val (.int n1), .val (.int a1), .val (.int t1), .val (.ref b15), .val (.int (3 : Int32)), .val (.int v51), .val (.int v54), .val (.int v57), .val (.int v60), .val (.ref b142), .val (.int v157), .val (.int v160), .val (.int v170)] [])) _
      refine XS.aload X154.here hx rfl (hb hby at_251) rfl rfl ?_
      show Steps p.tables e below (T154.setTop (mkF m 253 #[.val (.long l1), .second, .val (.int w1), .val (.int n1), .val (.int a1), .val (.int t1), .val (.ref b15), .val (.int (3 : Int32)), .val (.int v51), .val (.int v54), .val (.int v57), .val (.int v60), .val (.ref b142), .val (.int v157), .val (.int v160), .val (.int v170)] [(.ref b15)])) _
      refine XS.iload X154.here hx rfl (hb hby at_253) rfl ?_
      show Steps p.tables e below (T154.setTop (mkF m 255 #[.val (.long l1), .second, .val (.int w1), .val (.int n1), .val (.int a1), .val (.int t1), .val (.ref b15), .val (.int (3 : Int32)), .val (.int v51), .val (.int v54), .val (.int v57), .val (.int v60), .val (.ref b142), .val (.int v157), .val (.int v160), .val (.int v170)] [(.int v157), (.ref b15)])) _
      refine XS.iload X154.here hx rfl (hb hby at_255) rfl ?_
      show Steps p.tables e below (T154.setTop (mkF m 257 #[.val (.long l1), .second, .val (.int w1), .val (.int n1), .val (.int a1), .val (.int t1), .val (.ref b15), .val (.int (3 : Int32)), .val (.int v51), .val (.int v54), .val (.int v57), .val (.int v60), .val (.ref b142), .val (.int v157), .val (.int v160), .val (.int v170)] [(.int v160), (.int v157), (.ref b15)])) _
      refine XS.aload X154.here hx rfl (hb hby at_257) rfl rfl ?_
      exact kt
    obtain ⟨_, _, ⟨T172, L172, k172, n172⟩, -, X172, ⟨Lc172, hQ172, l172, y172, z172⟩, st172⟩ := Jvm.LawKit.callS X154 hx (y := (⟨"com/example/joinery/joinery/Bytes", "startsWith", "([BII[B)Z"⟩ : MethodName)) hown (mvT hZ (hw _ (List.mem_of_getElem? (i := 2) rfl))) (mvT hZ (hw _ (List.mem_of_getElem? (i := 3) rfl))) (mvT hZ (hw _ (List.mem_of_getElem? (i := 4) rfl))) (mvT hZ (hw _ (List.mem_of_getElem? (i := 5) rfl))) (by decide) (backOf (W := 0) (rm1 l Z a0 hw [] b15 v157 v160 b142 an tn 3 (own_l5 v18 v24 v30 v36 v42) (own_l4 v51 v54 v57 v60) h154 n0 z155 f163 hva hat hdd htn (by decide)) hZ (hw _ (List.mem_of_getElem? (i := 5) rfl)) (hw _ (List.mem_of_getElem? (i := 4) rfl)) (by decide) (by decide)) (g := (mkF m 259 #[.val (.long l1), .second, .val (.int w1), .val (.int n1), .val (.int a1), .val (.int t1), .val (.ref b15), .val (.int (3 : Int32)), .val (.int v51), .val (.int v54), .val (.int v57), .val (.int v60), .val (.ref b142), .val (.int v157), .val (.int v160), .val (.int v170)] [(.ref b142), (.int v160), (.int v157), (.ref b15)])) rfl (by rw [hml]; rfl) (argsL := [(.ref b15), (.int v157), (.int v160), (.ref b142)]) (rest := []) (lenOf pd_0 rfl) rfl (by show 2 * 0 + _ ≤ _; exact Nat.le_of_eq rfl) (hb hby at_259) (fun _ _ => ⟨rfl, e154, (by decide : 2 + 0 ≤ _), (by decide : 8 + 0 ≤ _)⟩)
    dsimp only [Pt.U, Pt.locs, Pt.cells, Pt.slots] at X172 l172 y172 z172 st172 hQ172
    subst l172 y172 z172
    obtain ⟨rfl, N172q, e172⟩ := hQ172
    have N172 := Fr.app N156 N172q
    have S173 : ∀ t, Steps p.tables e below (T172.setTop (mkF m 272 #[.val (.long l1), .second, .val (.int w1), .val (.int n1), .val (.int a1), .val (.int t1), .val (.ref b15), .val (.int (3 : Int32)), .val (.int v51), .val (.int v54), .val (.int v57), .val (.int v60), .val (.ref b142), .val (.int v157), .val (.int v160), .val (.int v170)] [(.int (1 : Int32))])) t → Steps p.tables e below (T172.setTop (mkF m 262 #[.val (.long l1), .second, .val (.int w1), .val (.int n1), .val (.int a1), .val (.int t1), .val (.ref b15), .val (.int (3 : Int32)), .val (.int v51), .val (.int v54), .val (.int v57), .val (.int v60), .val (.ref b142), .val (.int v157), .val (.int v160), .val (.int v170)] [(.int (own_sw (own_l5 v18 v24 v30 v36 v42) (own_l4 v51 v54 v57 v60) an (v160 - v157) 3))])) t := by
      intro t kt
      show Steps p.tables e below (T172.setTop (mkF m 262 #[.val (.long l1), .second, .val (.int w1), .val (.int n1), .val (.int a1), .val (.int t1), .val (.ref b15), .val (.int (3 : Int32)), .val (.int v51), .val (.int v54), .val (.int v57), .val (.int v60), .val (.ref b142), .val (.int v157), .val (.int v160), .val (.int v170)] [(.int (own_sw (own_l5 v18 v24 v30 v36 v42) (own_l4 v51 v54 v57 v60) an (v160 - v157) 3))])) _
      refine XS.iload X172.here hx rfl (hb hby at_262) rfl ?_
      show Steps p.tables e below (T172.setTop (mkF m 264 #[.val (.long l1), .second, .val (.int w1), .val (.int n1), .val (.int a1), .val (.int t1), .val (.ref b15), .val (.int (3 : Int32)), .val (.int v51), .val (.int v54), .val (.int v57), .val (.int v60), .val (.ref b142), .val (.int v157), .val (.int v160), .val (.int v170)] [(.int v170), (.int (own_sw (own_l5 v18 v24 v30 v36 v42) (own_l4 v51 v54 v57 v60) an (v160 - v157) 3))])) _
      refine XS.icmpNo X172.here hx rfl (hb hby at_264) rfl (teq (show (own_sw (own_l5 v18 v24 v30 v36 v42) (own_l4 v51 v54 v57 v60) an (v160 - v157) 3) = v170 from by rw [hv170]; rfl)).2 ?_
      show Steps p.tables e below (T172.setTop (mkF m 267 #[.val (.long l1), .second, .val (.int w1), .val (.int n1), .val (.int a1), .val (.int t1), .val (.ref b15), .val (.int (3 : Int32)), .val (.int v51), .val (.int v54), .val (.int v57), .val (.int v60), .val (.ref b142), .val (.int v157), .val (.int v160), .val (.int v170)] [])) _
      refine XS.iconst X172.here hx rfl (hb hby at_267) ?_
      show Steps p.tables e below (T172.setTop (mkF m 268 #[.val (.long l1), .second, .val (.int w1), .val (.int n1), .val (.int a1), .val (.int t1), .val (.ref b15), .val (.int (3 : Int32)), .val (.int v51), .val (.int v54), .val (.int v57), .val (.int v60), .val (.ref b142), .val (.int v157), .val (.int v160), .val (.int v170)] [(.int (1 : Int32))])) _
      refine XS.goto X172.here hx rfl (pc0 := 268) (pc' := 272) rfl (hb hby at_268) (by decide) (by decide) ?_
      exact kt
    have C174 : ∀ t, Steps p.tables e below (T172.setTop (mkF m 272 #[.val (.long l1), .second, .val (.int w1), .val (.int n1), .val (.int a1), .val (.int t1), .val (.ref b15), .val (.int (3 : Int32)), .val (.int v51), .val (.int v54), .val (.int v57), .val (.int v60), .val (.ref b142), .val (.int v157), .val (.int v160), .val (.int v170)] [(.int (1 : Int32))])) t → Steps p.tables e below (s₁.setTop (mkF m 0 #[.val (.long l1), .second, .val (.int w1), .val (.int n1), .val (.int a1), .val (.int t1), .unset, .unset, .unset, .unset, .unset, .unset, .unset, .unset, .unset, .unset] [])) t := (fun t k => (C64 t (S140 t (S141 t (st142 t (S145 t (st146 t (S149 t (st150 t (S153 t (st154 t (S158 t (S159 t (S161 t (S162 t (S164 t (S169 t (S171 t (st172 t (S173 t k))))))))))))))))))))
    obtain ⟨fs, hr, hrun, hended, hW, hsame⟩ := X172.leave (v := some (.int (1 : Int32))) (fun h => by rw [Bd.returns] at h; cases h)
    refine ⟨_, _, pre0 _ (C174 _ ?_), hrun, hended, _, _, rfl, ?_, ⟨_, rfl⟩, hW, hsame.mono (by decide) (by decide)⟩
    · exact retN X172 hx (t := .boolean) Bd.returns (by simp) (hb hby at_272) hr
    · show Q_rm0 Z l1 w1 n1 a1 t1 h0 n0 _ T172.heap _
      rw [e172]
      exact ⟨rfl, N172⟩
  · have S175 : ∀ t, Steps p.tables e below (T45.setTop (mkF m 85 #[.val (.long l1), .second, .val (.int w1), .val (.int n1), .val (.int a1), .val (.int t1), .val (.ref b15), .val (.int (4 : Int32)), .val (.int v51), .val (.int v54), .val (.int v57), .val (.int v60), .unset, .unset, .unset, .unset] [])) t → Steps p.tables e below (T45.setTop (mkF m 85 #[.val (.long l1), .second, .val (.int w1), .val (.int n1), .val (.int a1), .val (.int t1), .val (.ref b15), .val (.int v48), .val (.int v51), .val (.int v54), .val (.int v57), .val (.int v60), .unset, .unset, .unset, .unset] [])) t := fun t k => by rw [qv48]; exact k
    have S176 : ∀ t, Steps p.tables e below (T45.setTop (mkF m 87 #[.val (.long l1), .second, .val (.int w1), .val (.int n1), .val (.int a1), .val (.int t1), .val (.ref b15), .val (.int (4 : Int32)), .val (.int v51), .val (.int v54), .val (.int v57), .val (.int v60), .unset, .unset, .unset, .unset] [(.int (4 : Int32))])) t → Steps p.tables e below (T45.setTop (mkF m 85 #[.val (.long l1), .second, .val (.int w1), .val (.int n1), .val (.int a1), .val (.int t1), .val (.ref b15), .val (.int (4 : Int32)), .val (.int v51), .val (.int v54), .val (.int v57), .val (.int v60), .unset, .unset, .unset, .unset] [])) t := by
      intro t kt
      show Steps p.tables e below (T45.setTop (mkF m 85 #[.val (.long l1), .second, .val (.int w1), .val (.int n1), .val (.int a1), .val (.int t1), .val (.ref b15), .val (.int (4 : Int32)), .val (.int v51), .val (.int v54), .val (.int v57), .val (.int v60), .unset, .unset, .unset, .unset] [])) _
      refine XS.iload X45.here hx rfl (hb hby at_85) rfl ?_
      exact kt
    obtain ⟨T177, h177, k177, X177, e177, E177, A177, st177⟩ := newP X45 hx hZ (hw _ (List.mem_of_getElem? (i := 0) rfl)) e45 (g := (mkF m 87 #[.val (.long l1), .second, .val (.int w1), .val (.int n1), .val (.int a1), .val (.int t1), .val (.ref b15), .val (.int (4 : Int32)), .val (.int v51), .val (.int v54), .val (.int v57), .val (.int v60), .unset, .unset, .unset, .unset] [(.int (4 : Int32))])) rfl (hb hby at_87) rfl (by decide) (cap := 4) (by decide) (by decide) (by decide) (by decide)
    obtain ⟨b177, g177⟩ : ∃ z, z = h45.size := ⟨_, rfl⟩
    rw [← g177] at A177 st177
    have g_b177 : n0 ≤ b177 := Nat.le_trans z46 (Nat.le_of_eq g177.symm)
    have K178 := ((((((K16.ext E15).wr W21 (Or.inr sz_b15)).wr W27 (Or.inr sz_b15)).wr W33 (Or.inr sz_b15)).wr W39 (Or.inr sz_b15)).wr W45 (Or.inr sz_b15))
    have sz_b177 : h0.size ≤ b177 := Nat.le_trans K178.1 (Nat.le_of_eq g177.symm)
    have ne_b15_b177 : b15 ≠ b177 := Nat.ne_of_lt (Nat.lt_of_lt_of_le V45'.lt (Nat.le_of_eq g177.symm))
    have z179 : n0 ≤ h177.size := Nat.le_trans z46 E177.1
    have V177 : ArF Z h177 b177 .byte 4 (fun _ => (.int (0 : Int32))) := ArF.new A177 (by decide) rfl
    have S180 : ∀ t, Steps p.tables e below (T177.setTop (mkF m 101 #[.val (.long l1), .second, .val (.int w1), .val (.int n1), .val (.int a1), .val (.int t1), .val (.ref b15), .val (.int (4 : Int32)), .val (.int v51), .val (.int v54), .val (.int v57), .val (.int v60), .val (.ref b177), .unset, .unset, .unset] [(.int v51), (.int (0 : Int32)), (.ref b177)])) t → Steps p.tables e below (T177.setTop (mkF m 89 #[.val (.long l1), .second, .val (.int w1), .val (.int n1), .val (.int a1), .val (.int t1), .val (.ref b15), .val (.int (4 : Int32)), .val (.int v51), .val (.int v54), .val (.int v57), .val (.int v60), .unset, .unset, .unset, .unset] [(.ref b177)])) t := by
      intro t kt
      show Steps p.tables e below (T177.setTop (mkF m 89 #[.val (.long l1), .second, .val (.int w1), .val (.int n1), .val (.int a1), .val (.int t1), .val (.ref b15), .val (.int (4 : Int32)), .val (.int v51), .val (.int v54), .val (.int v57), .val (.int v60), .unset, .unset, .unset, .unset] [(.ref b177)])) _
      refine XS.astore X177.here hx rfl (hb hby at_89) rfl rfl (l' := #[.val (.long l1), .second, .val (.int w1), .val (.int n1), .val (.int a1), .val (.int t1), .val (.ref b15), .val (.int (4 : Int32)), .val (.int v51), .val (.int v54), .val (.int v57), .val (.int v60), .val (.ref b177), .unset, .unset, .unset]) rfl ?_
      show Steps p.tables e below (T177.setTop (mkF m 91 #[.val (.long l1), .second, .val (.int w1), .val (.int n1), .val (.int a1), .val (.int t1), .val (.ref b15), .val (.int (4 : Int32)), .val (.int v51), .val (.int v54), .val (.int v57), .val (.int v60), .val (.ref b177), .unset, .unset, .unset] [])) _
      refine XS.iload X177.here hx rfl (hb hby at_91) rfl ?_
      show Steps p.tables e below (T177.setTop (mkF m 93 #[.val (.long l1), .second, .val (.int w1), .val (.int n1), .val (.int a1), .val (.int t1), .val (.ref b15), .val (.int (4 : Int32)), .val (.int v51), .val (.int v54), .val (.int v57), .val (.int v60), .val (.ref b177), .unset, .unset, .unset] [(.int (4 : Int32))])) _
      refine XS.ifNo X177.here hx rfl (hb hby at_93) rfl ((if0 _ _).trans (tlt (by decide)).2.2.2) ?_
      show Steps p.tables e below (T177.setTop (mkF m 96 #[.val (.long l1), .second, .val (.int w1), .val (.int n1), .val (.int a1), .val (.int t1), .val (.ref b15), .val (.int (4 : Int32)), .val (.int v51), .val (.int v54), .val (.int v57), .val (.int v60), .val (.ref b177), .unset, .unset, .unset] [])) _
      refine XS.aload X177.here hx rfl (hb hby at_96) rfl rfl ?_
      show Steps p.tables e below (T177.setTop (mkF m 98 #[.val (.long l1), .second, .val (.int w1), .val (.int n1), .val (.int a1), .val (.int t1), .val (.ref b15), .val (.int (4 : Int32)), .val (.int v51), .val (.int v54), .val (.int v57), .val (.int v60), .val (.ref b177), .unset, .unset, .unset] [(.ref b177)])) _
      refine XS.iconst X177.here hx rfl (hb hby at_98) ?_
      show Steps p.tables e below (T177.setTop (mkF m 99 #[.val (.long l1), .second, .val (.int w1), .val (.int n1), .val (.int a1), .val (.int t1), .val (.ref b15), .val (.int (4 : Int32)), .val (.int v51), .val (.int v54), .val (.int v57), .val (.int v60), .val (.ref b177), .unset, .unset, .unset] [(.int (0 : Int32)), (.ref b177)])) _
      refine XS.iload X177.here hx rfl (hb hby at_99) rfl ?_
      exact kt
    obtain ⟨T181, h181, X181, e181, W181, V181, st181⟩ := ArF.stB X177 hx hZ e177 V177 (i := 0) (by decide) (by decide) (g := (mkF m 101 #[.val (.long l1), .second, .val (.int w1), .val (.int n1), .val (.int a1), .val (.int t1), .val (.ref b15), .val (.int (4 : Int32)), .val (.int v51), .val (.int v54), .val (.int v57), .val (.int v60), .val (.ref b177), .unset, .unset, .unset] [(.int v51), (.int (0 : Int32)), (.ref b177)])) rfl rfl (hb hby at_101)
    have z182 : n0 ≤ h181.size := Nat.le_trans z179 (Keep.of_wr W181).1
    have N183 := Fr.snoc X181 N47 g_b177
    have S184 : ∀ t, Steps p.tables e below (T181.setTop (mkF m 113 #[.val (.long l1), .second, .val (.int w1), .val (.int n1), .val (.int a1), .val (.int t1), .val (.ref b15), .val (.int (4 : Int32)), .val (.int v51), .val (.int v54), .val (.int v57), .val (.int v60), .val (.ref b177), .unset, .unset, .unset] [(.int v54), (.int (1 : Int32)), (.ref b177)])) t → Steps p.tables e below (T181.setTop (mkF m 102 #[.val (.long l1), .second, .val (.int w1), .val (.int n1), .val (.int a1), .val (.int t1), .val (.ref b15), .val (.int (4 : Int32)), .val (.int v51), .val (.int v54), .val (.int v57), .val (.int v60), .val (.ref b177), .unset, .unset, .unset] [])) t := by
      intro t kt
      show Steps p.tables e below (T181.setTop (mkF m 102 #[.val (.long l1), .second, .val (.int w1), .val (.int n1), .val (.int a1), .val (.int t1), .val (.ref b15), .val (.int (4 : Int32)), .val (.int v51), .val (.int v54), .val (.int v57), .val (.int v60), .val (.ref b177), .unset, .unset, .unset] [])) _
      refine XS.iload X181.here hx rfl (hb hby at_102) rfl ?_
      show Steps p.tables e below (T181.setTop (mkF m 104 #[.val (.long l1), .second, .val (.int w1), .val (.int n1), .val (.int a1), .val (.int t1), .val (.ref b15), .val (.int (4 : Int32)), .val (.int v51), .val (.int v54), .val (.int v57), .val (.int v60), .val (.ref b177), .unset, .unset, .unset] [(.int (4 : Int32))])) _
      refine XS.iconst X181.here hx rfl (hb hby at_104) ?_
      show Steps p.tables e below (T181.setTop (mkF m 105 #[.val (.long l1), .second, .val (.int w1), .val (.int n1), .val (.int a1), .val (.int t1), .val (.ref b15), .val (.int (4 : Int32)), .val (.int v51), .val (.int v54), .val (.int v57), .val (.int v60), .val (.ref b177), .unset, .unset, .unset] [(.int (1 : Int32)), (.int (4 : Int32))])) _
      refine XS.icmpNo X181.here hx rfl (hb hby at_105) rfl (tlt (by decide)).2.2.2 ?_
      show Steps p.tables e below (T181.setTop (mkF m 108 #[.val (.long l1), .second, .val (.int w1), .val (.int n1), .val (.int a1), .val (.int t1), .val (.ref b15), .val (.int (4 : Int32)), .val (.int v51), .val (.int v54), .val (.int v57), .val (.int v60), .val (.ref b177), .unset, .unset, .unset] [])) _
      refine XS.aload X181.here hx rfl (hb hby at_108) rfl rfl ?_
      show Steps p.tables e below (T181.setTop (mkF m 110 #[.val (.long l1), .second, .val (.int w1), .val (.int n1), .val (.int a1), .val (.int t1), .val (.ref b15), .val (.int (4 : Int32)), .val (.int v51), .val (.int v54), .val (.int v57), .val (.int v60), .val (.ref b177), .unset, .unset, .unset] [(.ref b177)])) _
      refine XS.iconst X181.here hx rfl (hb hby at_110) ?_
      show Steps p.tables e below (T181.setTop (mkF m 111 #[.val (.long l1), .second, .val (.int w1), .val (.int n1), .val (.int a1), .val (.int t1), .val (.ref b15), .val (.int (4 : Int32)), .val (.int v51), .val (.int v54), .val (.int v57), .val (.int v60), .val (.ref b177), .unset, .unset, .unset] [(.int (1 : Int32)), (.ref b177)])) _
      refine XS.iload X181.here hx rfl (hb hby at_111) rfl ?_
      exact kt
    obtain ⟨T185, h185, X185, e185, W185, V185, st185⟩ := ArF.stB X181 hx hZ e181 V181 (i := 1) (by decide) (by decide) (g := (mkF m 113 #[.val (.long l1), .second, .val (.int w1), .val (.int n1), .val (.int a1), .val (.int t1), .val (.ref b15), .val (.int (4 : Int32)), .val (.int v51), .val (.int v54), .val (.int v57), .val (.int v60), .val (.ref b177), .unset, .unset, .unset] [(.int v54), (.int (1 : Int32)), (.ref b177)])) rfl rfl (hb hby at_113)
    have z186 : n0 ≤ h185.size := Nat.le_trans z182 (Keep.of_wr W185).1
    have N187 := Fr.snoc X185 N183 g_b177
    have S188 : ∀ t, Steps p.tables e below (T185.setTop (mkF m 125 #[.val (.long l1), .second, .val (.int w1), .val (.int n1), .val (.int a1), .val (.int t1), .val (.ref b15), .val (.int (4 : Int32)), .val (.int v51), .val (.int v54), .val (.int v57), .val (.int v60), .val (.ref b177), .unset, .unset, .unset] [(.int v57), (.int (2 : Int32)), (.ref b177)])) t → Steps p.tables e below (T185.setTop (mkF m 114 #[.val (.long l1), .second, .val (.int w1), .val (.int n1), .val (.int a1), .val (.int t1), .val (.ref b15), .val (.int (4 : Int32)), .val (.int v51), .val (.int v54), .val (.int v57), .val (.int v60), .val (.ref b177), .unset, .unset, .unset] [])) t := by
      intro t kt
      show Steps p.tables e below (T185.setTop (mkF m 114 #[.val (.long l1), .second, .val (.int w1), .val (.int n1), .val (.int a1), .val (.int t1), .val (.ref b15), .val (.int (4 : Int32)), .val (.int v51), .val (.int v54), .val (.int v57), .val (.int v60), .val (.ref b177), .unset, .unset, .unset] [])) _
      refine XS.iload X185.here hx rfl (hb hby at_114) rfl ?_
      show Steps p.tables e below (T185.setTop (mkF m 116 #[.val (.long l1), .second, .val (.int w1), .val (.int n1), .val (.int a1), .val (.int t1), .val (.ref b15), .val (.int (4 : Int32)), .val (.int v51), .val (.int v54), .val (.int v57), .val (.int v60), .val (.ref b177), .unset, .unset, .unset] [(.int (4 : Int32))])) _
      refine XS.iconst X185.here hx rfl (hb hby at_116) ?_
      show Steps p.tables e below (T185.setTop (mkF m 117 #[.val (.long l1), .second, .val (.int w1), .val (.int n1), .val (.int a1), .val (.int t1), .val (.ref b15), .val (.int (4 : Int32)), .val (.int v51), .val (.int v54), .val (.int v57), .val (.int v60), .val (.ref b177), .unset, .unset, .unset] [(.int (2 : Int32)), (.int (4 : Int32))])) _
      refine XS.icmpNo X185.here hx rfl (hb hby at_117) rfl (tlt (by decide)).2.2.2 ?_
      show Steps p.tables e below (T185.setTop (mkF m 120 #[.val (.long l1), .second, .val (.int w1), .val (.int n1), .val (.int a1), .val (.int t1), .val (.ref b15), .val (.int (4 : Int32)), .val (.int v51), .val (.int v54), .val (.int v57), .val (.int v60), .val (.ref b177), .unset, .unset, .unset] [])) _
      refine XS.aload X185.here hx rfl (hb hby at_120) rfl rfl ?_
      show Steps p.tables e below (T185.setTop (mkF m 122 #[.val (.long l1), .second, .val (.int w1), .val (.int n1), .val (.int a1), .val (.int t1), .val (.ref b15), .val (.int (4 : Int32)), .val (.int v51), .val (.int v54), .val (.int v57), .val (.int v60), .val (.ref b177), .unset, .unset, .unset] [(.ref b177)])) _
      refine XS.iconst X185.here hx rfl (hb hby at_122) ?_
      show Steps p.tables e below (T185.setTop (mkF m 123 #[.val (.long l1), .second, .val (.int w1), .val (.int n1), .val (.int a1), .val (.int t1), .val (.ref b15), .val (.int (4 : Int32)), .val (.int v51), .val (.int v54), .val (.int v57), .val (.int v60), .val (.ref b177), .unset, .unset, .unset] [(.int (2 : Int32)), (.ref b177)])) _
      refine XS.iload X185.here hx rfl (hb hby at_123) rfl ?_
      exact kt
    obtain ⟨T189, h189, X189, e189, W189, V189, st189⟩ := ArF.stB X185 hx hZ e185 V185 (i := 2) (by decide) (by decide) (g := (mkF m 125 #[.val (.long l1), .second, .val (.int w1), .val (.int n1), .val (.int a1), .val (.int t1), .val (.ref b15), .val (.int (4 : Int32)), .val (.int v51), .val (.int v54), .val (.int v57), .val (.int v60), .val (.ref b177), .unset, .unset, .unset] [(.int v57), (.int (2 : Int32)), (.ref b177)])) rfl rfl (hb hby at_125)
    have z190 : n0 ≤ h189.size := Nat.le_trans z186 (Keep.of_wr W189).1
    have N191 := Fr.snoc X189 N187 g_b177
    have S192 : ∀ t, Steps p.tables e below (T189.setTop (mkF m 137 #[.val (.long l1), .second, .val (.int w1), .val (.int n1), .val (.int a1), .val (.int t1), .val (.ref b15), .val (.int (4 : Int32)), .val (.int v51), .val (.int v54), .val (.int v57), .val (.int v60), .val (.ref b177), .unset, .unset, .unset] [(.int v60), (.int (3 : Int32)), (.ref b177)])) t → Steps p.tables e below (T189.setTop (mkF m 126 #[.val (.long l1), .second, .val (.int w1), .val (.int n1), .val (.int a1), .val (.int t1), .val (.ref b15), .val (.int (4 : Int32)), .val (.int v51), .val (.int v54), .val (.int v57), .val (.int v60), .val (.ref b177), .unset, .unset, .unset] [])) t := by
      intro t kt
      show Steps p.tables e below (T189.setTop (mkF m 126 #[.val (.long l1), .second, .val (.int w1), .val (.int n1), .val (.int a1), .val (.int t1), .val (.ref b15), .val (.int (4 : Int32)), .val (.int v51), .val (.int v54), .val (.int v57), .val (.int v60), .val (.ref b177), .unset, .unset, .unset] [])) _
      refine XS.iload X189.here hx rfl (hb hby at_126) rfl ?_
      show Steps p.tables e below (T189.setTop (mkF m 128 #[.val (.long l1), .second, .val (.int w1), .val (.int n1), .val (.int a1), .val (.int t1), .val (.ref b15), .val (.int (4 : Int32)), .val (.int v51), .val (.int v54), .val (.int v57), .val (.int v60), .val (.ref b177), .unset, .unset, .unset] [(.int (4 : Int32))])) _
      refine XS.iconst X189.here hx rfl (hb hby at_128) ?_
      show Steps p.tables e below (T189.setTop (mkF m 129 #[.val (.long l1), .second, .val (.int w1), .val (.int n1), .val (.int a1), .val (.int t1), .val (.ref b15), .val (.int (4 : Int32)), .val (.int v51), .val (.int v54), .val (.int v57), .val (.int v60), .val (.ref b177), .unset, .unset, .unset] [(.int (3 : Int32)), (.int (4 : Int32))])) _
      refine XS.icmpNo X189.here hx rfl (hb hby at_129) rfl (tlt (by decide)).2.2.2 ?_
      show Steps p.tables e below (T189.setTop (mkF m 132 #[.val (.long l1), .second, .val (.int w1), .val (.int n1), .val (.int a1), .val (.int t1), .val (.ref b15), .val (.int (4 : Int32)), .val (.int v51), .val (.int v54), .val (.int v57), .val (.int v60), .val (.ref b177), .unset, .unset, .unset] [])) _
      refine XS.aload X189.here hx rfl (hb hby at_132) rfl rfl ?_
      show Steps p.tables e below (T189.setTop (mkF m 134 #[.val (.long l1), .second, .val (.int w1), .val (.int n1), .val (.int a1), .val (.int t1), .val (.ref b15), .val (.int (4 : Int32)), .val (.int v51), .val (.int v54), .val (.int v57), .val (.int v60), .val (.ref b177), .unset, .unset, .unset] [(.ref b177)])) _
      refine XS.iconst X189.here hx rfl (hb hby at_134) ?_
      show Steps p.tables e below (T189.setTop (mkF m 135 #[.val (.long l1), .second, .val (.int w1), .val (.int n1), .val (.int a1), .val (.int t1), .val (.ref b15), .val (.int (4 : Int32)), .val (.int v51), .val (.int v54), .val (.int v57), .val (.int v60), .val (.ref b177), .unset, .unset, .unset] [(.int (3 : Int32)), (.ref b177)])) _
      refine XS.iload X189.here hx rfl (hb hby at_135) rfl ?_
      exact kt
    obtain ⟨T193, h193, X193, e193, W193, V193, st193⟩ := ArF.stB X189 hx hZ e189 V189 (i := 3) (by decide) (by decide) (g := (mkF m 137 #[.val (.long l1), .second, .val (.int w1), .val (.int n1), .val (.int a1), .val (.int t1), .val (.ref b15), .val (.int (4 : Int32)), .val (.int v51), .val (.int v54), .val (.int v57), .val (.int v60), .val (.ref b177), .unset, .unset, .unset] [(.int v60), (.int (3 : Int32)), (.ref b177)])) rfl rfl (hb hby at_137)
    have z194 : n0 ≤ h193.size := Nat.le_trans z190 (Keep.of_wr W193).1
    have N195 := Fr.snoc X193 N191 g_b177
    have S197 : ∀ t, Steps p.tables e below (T193.setTop (mkF m 146 #[.val (.long l1), .second, .val (.int w1), .val (.int n1), .val (.int a1), .val (.int t1), .val (.ref b15), .val (.int (4 : Int32)), .val (.int v51), .val (.int v54), .val (.int v57), .val (.int v60), .val (.ref b177), .unset, .unset, .unset] [(.int ((a1 &&& (7 : Int32)) % (6 : Int32)))])) t → Steps p.tables e below (T193.setTop (mkF m 138 #[.val (.long l1), .second, .val (.int w1), .val (.int n1), .val (.int a1), .val (.int t1), .val (.ref b15), .val (.int (4 : Int32)), .val (.int v51), .val (.int v54), .val (.int v57), .val (.int v60), .val (.ref b177), .unset, .unset, .unset] [])) t := by
      intro t kt
      show Steps p.tables e below (T193.setTop (mkF m 138 #[.val (.long l1), .second, .val (.int w1), .val (.int n1), .val (.int a1), .val (.int t1), .val (.ref b15), .val (.int (4 : Int32)), .val (.int v51), .val (.int v54), .val (.int v57), .val (.int v60), .val (.ref b177), .unset, .unset, .unset] [])) _
      refine XS.iload X193.here hx rfl (hb hby at_138) rfl ?_
      show Steps p.tables e below (T193.setTop (mkF m 140 #[.val (.long l1), .second, .val (.int w1), .val (.int n1), .val (.int a1), .val (.int t1), .val (.ref b15), .val (.int (4 : Int32)), .val (.int v51), .val (.int v54), .val (.int v57), .val (.int v60), .val (.ref b177), .unset, .unset, .unset] [(.int a1)])) _
      refine XS.bipush X193.here hx rfl (hb hby at_140) ?_
      show Steps p.tables e below (T193.setTop (mkF m 142 #[.val (.long l1), .second, .val (.int w1), .val (.int n1), .val (.int a1), .val (.int t1), .val (.ref b15), .val (.int (4 : Int32)), .val (.int v51), .val (.int v54), .val (.int v57), .val (.int v60), .val (.ref b177), .unset, .unset, .unset] [(.int (7 : Int32)), (.int a1)])) _
      refine XS.iand X193.here hx rfl (hb hby at_142) rfl ?_
      show Steps p.tables e below (T193.setTop (mkF m 143 #[.val (.long l1), .second, .val (.int w1), .val (.int n1), .val (.int a1), .val (.int t1), .val (.ref b15), .val (.int (4 : Int32)), .val (.int v51), .val (.int v54), .val (.int v57), .val (.int v60), .val (.ref b177), .unset, .unset, .unset] [(.int (a1 &&& (7 : Int32)))])) _
      refine XS.bipush X193.here hx rfl (hb hby at_143) ?_
      show Steps p.tables e below (T193.setTop (mkF m 145 #[.val (.long l1), .second, .val (.int w1), .val (.int n1), .val (.int a1), .val (.int t1), .val (.ref b15), .val (.int (4 : Int32)), .val (.int v51), .val (.int v54), .val (.int v57), .val (.int v60), .val (.ref b177), .unset, .unset, .unset] [(.int (6 : Int32)), (.int (a1 &&& (7 : Int32)))])) _
      refine iremM X193 hx rfl (hb hby at_145) rfl (by decide) ?_
      exact kt
    obtain ⟨v196, hv196⟩ : ∃ z : Int32, z = ((a1 &&& (7 : Int32)) % (6 : Int32)) := ⟨_, rfl⟩
    have S198 : ∀ t, Steps p.tables e below (T193.setTop (mkF m 146 #[.val (.long l1), .second, .val (.int w1), .val (.int n1), .val (.int a1), .val (.int t1), .val (.ref b15), .val (.int (4 : Int32)), .val (.int v51), .val (.int v54), .val (.int v57), .val (.int v60), .val (.ref b177), .unset, .unset, .unset] [(.int v196)])) t → Steps p.tables e below (T193.setTop (mkF m 146 #[.val (.long l1), .second, .val (.int w1), .val (.int n1), .val (.int a1), .val (.int t1), .val (.ref b15), .val (.int (4 : Int32)), .val (.int v51), .val (.int v54), .val (.int v57), .val (.int v60), .val (.ref b177), .unset, .unset, .unset] [(.int ((a1 &&& (7 : Int32)) % (6 : Int32)))])) t := fun t k => by rw [hv196.symm]; exact k
    obtain ⟨an, hat, han⟩ := own_at_in _ _ hv196
    have S200 : ∀ t, Steps p.tables e below (T193.setTop (mkF m 162 #[.val (.long l1), .second, .val (.int w1), .val (.int n1), .val (.int a1), .val (.int t1), .val (.ref b15), .val (.int (4 : Int32)), .val (.int v51), .val (.int v54), .val (.int v57), .val (.int v60), .val (.ref b177), .val (.int v196), .unset, .unset] [(.int (v196 + ((t1 &&& (2147483647 : Int32)) % ((6 : Int32) - v196))))])) t → Steps p.tables e below (T193.setTop (mkF m 146 #[.val (.long l1), .second, .val (.int w1), .val (.int n1), .val (.int a1), .val (.int t1), .val (.ref b15), .val (.int (4 : Int32)), .val (.int v51), .val (.int v54), .val (.int v57), .val (.int v60), .val (.ref b177), .unset, .unset, .unset] [(.int v196)])) t := by
      intro t kt
      show Steps p.tables e below (T193.setTop (mkF m 146 #[.val (.long l1), .second, .val (.int w1), .val (.int n1), .val (.int a1), .val (.int t1), .val (.ref b15), .val (.int (4 : Int32)), .val (.int v51), .val (.int v54), .val (.int v57), .val (.int v60), .val (.ref b177), .unset, .unset, .unset] [(.int v196)])) _
      refine XS.istore X193.here hx rfl (hb hby at_146) rfl (l' := #[.val (.long l1), .second, .val (.int w1), .val (.int n1), .val (.int a1), .val (.int t1), .val (.ref b15), .val (.int (4 : Int32)), .val (.int v51), .val (.int v54), .val (.int v57), .val (.int v60), .val (.ref b177), .val (.int v196), .unset, .unset]) rfl ?_
      show Steps p.tables e below (T193.setTop (mkF m 148 #[.val (.long l1), .second, .val (.int w1), .val (.int n1), .val (.int a1), .val (.int t1), .val (.ref b15), .val (.int (4 : Int32)), .val (.int v51), .val (.int v54), .val (.int v57), .val (.int v60), .val (.ref b177), .val (.int v196), .unset, .unset] [])) _
      refine XS.iload X193.here hx rfl (hb hby at_148) rfl ?_
      show Steps p.tables e below (T193.setTop (mkF m 150 #[.val (.long l1), .second, .val (.int w1), .val (.int n1), .val (.int a1), .val (.int t1), .val (.ref b15), .val (.int (4 : Int32)), .val (.int v51), .val (.int v54), .val (.int v57), .val (.int v60), .val (.ref b177), .val (.int v196), .unset, .unset] [(.int v196)])) _
      refine XS.iload X193.here hx rfl (hb hby at_150) rfl ?_
      show Steps p.tables e below (T193.setTop (mkF m 152 #[.val (.long l1), .second, .val (.int w1), .val (.int n1), .val (.int a1), .val (.int t1), .val (.ref b15), .val (.int (4 : Int32)), .val (.int v51), .val (.int v54), .val (.int v57), .val (.int v60), .val (.ref b177), .val (.int v196), .unset, .unset] [(.int t1), (.int v196)])) _
      refine X193.ldcInt hx hown (mvT hZ (hw _ (List.mem_of_getElem? (i := 1) rfl))) (g := (mkF m 152 #[.val (.long l1), .second, .val (.int w1), .val (.int n1), .val (.int a1), .val (.int t1), .val (.ref b15), .val (.int (4 : Int32)), .val (.int v51), .val (.int v54), .val (.int v57), .val (.int v60), .val (.ref b177), .val (.int v196), .unset, .unset] [(.int t1), (.int v196)])) rfl (hb hby at_152) _ ?_
      show Steps p.tables e below (T193.setTop (mkF m 154 #[.val (.long l1), .second, .val (.int w1), .val (.int n1), .val (.int a1), .val (.int t1), .val (.ref b15), .val (.int (4 : Int32)), .val (.int v51), .val (.int v54), .val (.int v57), .val (.int v60), .val (.ref b177), .val (.int v196), .unset, .unset] [(.int (2147483647 : Int32)), (.int t1), (.int v196)])) _
      refine XS.iand X193.here hx rfl (hb hby at_154) rfl ?_
      show Steps p.tables e below (T193.setTop (mkF m 155 #[.val (.long l1), .second, .val (.int w1), .val (.int n1), .val (.int a1), .val (.int t1), .val (.ref b15), .val (.int (4 : Int32)), .val (.int v51), .val (.int v54), .val (.int v57), .val (.int v60), .val (.ref b177), .val (.int v196), .unset, .unset] [(.int (t1 &&& (2147483647 : Int32))), (.int v196)])) _
      refine XS.bipush X193.here hx rfl (hb hby at_155) ?_
      show Steps p.tables e below (T193.setTop (mkF m 157 #[.val (.long l1), .second, .val (.int w1), .val (.int n1), .val (.int a1), .val (.int t1), .val (.ref b15), .val (.int (4 : Int32)), .val (.int v51), .val (.int v54), .val (.int v57), .val (.int v60), .val (.ref b177), .val (.int v196), .unset, .unset] [(.int (6 : Int32)), (.int (t1 &&& (2147483647 : Int32))), (.int v196)])) _
      refine XS.iload X193.here hx rfl (hb hby at_157) rfl ?_
      show Steps p.tables e below (T193.setTop (mkF m 159 #[.val (.long l1), .second, .val (.int w1), .val (.int n1), .val (.int a1), .val (.int t1), .val (.ref b15), .val (.int (4 : Int32)), .val (.int v51), .val (.int v54), .val (.int v57), .val (.int v60), .val (.ref b177), .val (.int v196), .unset, .unset] [(.int v196), (.int (6 : Int32)), (.int (t1 &&& (2147483647 : Int32))), (.int v196)])) _
      refine XS.isub X193.here hx rfl (hb hby at_159) rfl ?_
      show Steps p.tables e below (T193.setTop (mkF m 160 #[.val (.long l1), .second, .val (.int w1), .val (.int n1), .val (.int a1), .val (.int t1), .val (.ref b15), .val (.int (4 : Int32)), .val (.int v51), .val (.int v54), .val (.int v57), .val (.int v60), .val (.ref b177), .val (.int v196), .unset, .unset] [(.int ((6 : Int32) - v196)), (.int (t1 &&& (2147483647 : Int32))), (.int v196)])) _
      refine iremM X193 hx rfl (hb hby at_160) rfl (own_six_ne hat han) ?_
      show Steps p.tables e below (T193.setTop (mkF m 161 #[.val (.long l1), .second, .val (.int w1), .val (.int n1), .val (.int a1), .val (.int t1), .val (.ref b15), .val (.int (4 : Int32)), .val (.int v51), .val (.int v54), .val (.int v57), .val (.int v60), .val (.ref b177), .val (.int v196), .unset, .unset] [(.int ((t1 &&& (2147483647 : Int32)) % ((6 : Int32) - v196))), (.int v196)])) _
      refine XS.iadd X193.here hx rfl (hb hby at_161) rfl ?_
      exact kt
    obtain ⟨v199, hv199⟩ : ∃ z : Int32, z = (v196 + ((t1 &&& (2147483647 : Int32)) % ((6 : Int32) - v196))) := ⟨_, rfl⟩
    have S201 : ∀ t, Steps p.tables e below (T193.setTop (mkF m 162 #[.val (.long l1), .second, .val (.int w1), .val (.int n1), .val (.int a1), .val (.int t1), .val (.ref b15), .val (.int (4 : Int32)), .val (.int v51), .val (.int v54), .val (.int v57), .val (.int v60), .val (.ref b177), .val (.int v196), .unset, .unset] [(.int v199)])) t → Steps p.tables e below (T193.setTop (mkF m 162 #[.val (.long l1), .second, .val (.int w1), .val (.int n1), .val (.int a1), .val (.int t1), .val (.ref b15), .val (.int (4 : Int32)), .val (.int v51), .val (.int v54), .val (.int v57), .val (.int v60), .val (.ref b177), .val (.int v196), .unset, .unset] [(.int (v196 + ((t1 &&& (2147483647 : Int32)) % ((6 : Int32) - v196))))])) t := fun t k => by rw [hv199.symm]; exact k
    obtain ⟨tn, hto, hle, htn, hdd⟩ := own_to_in _ _ _ hat han hv199
    have f202 := (((((V45'.ext E177).other W181 ne_b15_b177).other W185 ne_b15_b177).other W189 ne_b15_b177).other W193 ne_b15_b177)
    have S203 : ∀ t, Steps p.tables e below (T193.setTop (mkF m 171 #[.val (.long l1), .second, .val (.int w1), .val (.int n1), .val (.int a1), .val (.int t1), .val (.ref b15), .val (.int (4 : Int32)), .val (.int v51), .val (.int v54), .val (.int v57), .val (.int v60), .val (.ref b177), .val (.int v196), .val (.int v199), .unset] [(.int (v199 - v196)), (.int (4 : Int32))])) t → Steps p.tables e below (T193.setTop (mkF m 162 #[.val (.long l1), .second, .val (.int w1), .val (.int n1), .val (.int a1), .val (.int t1), .val (.ref b15), .val (.int (4 : Int32)), .val (.int v51), .val (.int v54), .val (.int v57), .val (.int v60), .val (.ref b177), .val (.int v196), .unset, .unset] [(.int v199)])) t := by
      intro t kt
      show Steps p.tables e below (T193.setTop (mkF m 162 #[.val (.long l1), .second, .val (.int w1), .val (.int n1), .val (.int a1), .val (.int t1), .val (.ref b15), .val (.int (4 : Int32)), .val (.int v51), .val (.int v54), .val (.int v57), .val (.int v60), .val (.ref b177), .val (.int v196), .unset, .unset] [(.int v199)])) _
      refine XS.istore X193.here hx rfl (hb hby at_162) rfl (l' := #[.val (.long l1), .second, .val (.int w1), .val (.int n1), .val (.int a1), .val (.int t1), .val (.ref b15), .val (.int (4 : Int32)), .val (.int v51), .val (.int v54), .val (.int v57), .val (.int v60), .val (.ref b177), .val (.int v196), .val (.int v199), .unset]) rfl ?_
      show Steps p.tables e below (T193.setTop (mkF m 164 #[.val (.long l1), .second, .val (.int w1), .val (.int n1), .val (.int a1), .val (.int t1), .val (.ref b15), .val (.int (4 : Int32)), .val (.int v51), .val (.int v54), .val (.int v57), .val (.int v60), .val (.ref b177), .val (.int v196), .val (.int v199), .unset] [])) _
      refine XS.iload X193.here hx rfl (hb hby at_164) rfl ?_
      show Steps p.tables e below (T193.setTop (mkF m 166 #[.val (.long l1), .second, .val (.int w1), .val (.int n1), .val (.int a1), .val (.int t1), .val (.ref b15), .val (.int (4 : Int32)), .val (.int v51), .val (.int v54), .val (.int v57), .val (.int v60), .val (.ref b177), .val (.int v196), .val (.int v199), .unset] [(.int (4 : Int32))])) _
      refine XS.iload X193.here hx rfl (hb hby at_166) rfl ?_
      show Steps p.tables e below (T193.setTop (mkF m 168 #[.val (.long l1), .second, .val (.int w1), .val (.int n1), .val (.int a1), .val (.int t1), .val (.ref b15), .val (.int (4 : Int32)), .val (.int v51), .val (.int v54), .val (.int v57), .val (.int v60), .val (.ref b177), .val (.int v196), .val (.int v199), .unset] [(.int v199), (.int (4 : Int32))])) _
      refine XS.iload X193.here hx rfl (hb hby at_168) rfl ?_
      show Steps p.tables e below (T193.setTop (mkF m 170 #[.val (.long l1), .second, .val (.int w1), .val (.int n1), .val (.int a1), .val (.int t1), .val (.ref b15), .val (.int (4 : Int32)), .val (.int v51), .val (.int v54), .val (.int v57), .val (.int v60), .val (.ref b177), .val (.int v196), .val (.int v199), .unset] [(.int v196), (.int v199), (.int (4 : Int32))])) _
      refine XS.isub X193.here hx rfl (hb hby at_170) rfl ?_
      exact kt
    obtain ⟨v210, hv210⟩ : ∃ z : Int32, z = (if (v199 - v196) < (4 : Int32) then (0 : Int32) else (if (own_l5 v18 v24 v30 v36 v42 an) = v51 then (if (own_l5 v18 v24 v30 v36 v42 (an + 1)) = v54 then (if (own_l5 v18 v24 v30 v36 v42 (an + 2)) = v57 then (if (own_l5 v18 v24 v30 v36 v42 (an + 3)) = v60 then (1 : Int32) else (0 : Int32)) else (0 : Int32)) else (0 : Int32)) else (0 : Int32))) := ⟨_, rfl⟩
    have S209 : ∀ t, Steps p.tables e below (T193.setTop (mkF m 249 #[.val (.long l1), .second, .val (.int w1), .val (.int n1), .val (.int a1), .val (.int t1), .val (.ref b15), .val (.int (4 : Int32)), .val (.int v51), .val (.int v54), .val (.int v57), .val (.int v60), .val (.ref b177), .val (.int v196), .val (.int v199), .unset] [(.int v210)])) t → Steps p.tables e below (T193.setTop (mkF m 171 #[.val (.long l1), .second, .val (.int w1), .val (.int n1), .val (.int a1), .val (.int t1), .val (.ref b15), .val (.int (4 : Int32)), .val (.int v51), .val (.int v54), .val (.int v57), .val (.int v60), .val (.ref b177), .val (.int v196), .val (.int v199), .unset] [(.int (v199 - v196)), (.int (4 : Int32))])) t := by
      intro t kt
      subst hv210
      by_cases hc204 : (v199 - v196) < (4 : Int32)
      · simp only [if_pos hc204] at kt
        show Steps p.tables e below (T193.setTop (mkF m 171 #[.val (.long l1), .second, .val (.int w1), .val (.int n1), .val (.int a1), .val (.int t1), .val (.ref b15), .val (.int (4 : Int32)), .val (.int v51), .val (.int v54), .val (.int v57), .val (.int v60), .val (.ref b177), .val (.int v196), .val (.int v199), .unset] [(.int (v199 - v196)), (.int (4 : Int32))])) _
        refine XS.icmpYes X193.here hx rfl (pc0 := 171) (pc' := 248) rfl (hb hby at_171) rfl (tlt hc204).2.2.1 (by decide) (by decide) ?_
        show Steps p.tables e below (T193.setTop (mkF m 248 #[.val (.long l1), .second, .val (.int w1), .val (.int n1), .val (.int a1), .val (.int t1), .val (.ref b15), .val (.int (4 : Int32)), .val (.int v51), .val (.int v54), .val (.int v57), .val (.int v60), .val (.ref b177), .val (.int v196), .val (.int v199), .unset] [])) _
        refine XS.iconst X193.here hx rfl (hb hby at_248) ?_
        exact kt
      · by_cases hc205 : (own_l5 v18 v24 v30 v36 v42 an) = v51
        · by_cases hc206 : (own_l5 v18 v24 v30 v36 v42 (an + 1)) = v54
          · by_cases hc207 : (own_l5 v18 v24 v30 v36 v42 (an + 2)) = v57
            · by_cases hc208 : (own_l5 v18 v24 v30 v36 v42 (an + 3)) = v60
              · simp only [if_neg hc204, if_pos hc205, if_pos hc206, if_pos hc207, if_pos hc208] at kt
                show Steps p.tables e below (T193.setTop (mkF m 171 #[.val (.long l1), .second, .val (.int w1), .val (.int n1), .val (.int a1), .val (.int t1), .val (.ref b15), .val (.int (4 : Int32)), .val (.int v51), .val (.int v54), .val (.int v57), .val (.int v60), .val (.ref b177), .val (.int v196), .val (.int v199), .unset] [(.int (v199 - v196)), (.int (4 : Int32))])) _
                refine XS.icmpNo X193.here hx rfl (hb hby at_171) rfl (flt hc204).2.2.1 ?_
                show Steps p.tables e below (T193.setTop (mkF m 174 #[.val (.long l1), .second, .val (.int w1), .val (.int n1), .val (.int a1), .val (.int t1), .val (.ref b15), .val (.int (4 : Int32)), .val (.int v51), .val (.int v54), .val (.int v57), .val (.int v60), .val (.ref b177), .val (.int v196), .val (.int v199), .unset] [])) _
                refine XS.iload X193.here hx rfl (hb hby at_174) rfl ?_
                show Steps p.tables e below (T193.setTop (mkF m 176 #[.val (.long l1), .second, .val (.int w1), .val (.int n1), .val (.int a1), .val (.int t1), .val (.ref b15), .val (.int (4 : Int32)), .val (.int v51), .val (.int v54), .val (.int v57), .val (.int v60), .val (.ref b177), .val (.int v196), .val (.int v199), .unset] [(.int (4 : Int32))])) _
                refine XS.iconst X193.here hx rfl (hb hby at_176) ?_
                show Steps p.tables e below (T193.setTop (mkF m 177 #[.val (.long l1), .second, .val (.int w1), .val (.int n1), .val (.int a1), .val (.int t1), .val (.ref b15), .val (.int (4 : Int32)), .val (.int v51), .val (.int v54), .val (.int v57), .val (.int v60), .val (.ref b177), .val (.int v196), .val (.int v199), .unset] [(.int (1 : Int32)), (.int (4 : Int32))])) _
                refine XS.icmpNo X193.here hx rfl (hb hby at_177) rfl (flt (by decide)).1 ?_
                show Steps p.tables e below (T193.setTop (mkF m 180 #[.val (.long l1), .second, .val (.int w1), .val (.int n1), .val (.int a1), .val (.int t1), .val (.ref b15), .val (.int (4 : Int32)), .val (.int v51), .val (.int v54), .val (.int v57), .val (.int v60), .val (.ref b177), .val (.int v196), .val (.int v199), .unset] [])) _
                refine XS.aload X193.here hx rfl (hb hby at_180) rfl rfl ?_
                show Steps p.tables e below (T193.setTop (mkF m 182 #[.val (.long l1), .second, .val (.int w1), .val (.int n1), .val (.int a1), .val (.int t1), .val (.ref b15), .val (.int (4 : Int32)), .val (.int v51), .val (.int v54), .val (.int v57), .val (.int v60), .val (.ref b177), .val (.int v196), .val (.int v199), .unset] [(.ref b15)])) _
                refine XS.iload X193.here hx rfl (hb hby at_182) rfl ?_
                show Steps p.tables e below (T193.setTop (mkF m 184 #[.val (.long l1), .second, .val (.int w1), .val (.int n1), .val (.int a1), .val (.int t1), .val (.ref b15), .val (.int (4 : Int32)), .val (.int v51), .val (.int v54), .val (.int v57), .val (.int v60), .val (.ref b177), .val (.int v196), .val (.int v199), .unset] [(.int v196), (.ref b15)])) _
                refine ArF.ldB X193 hx hZ e193 f202 (i := an) hat (by have := (own_bd hdd htn (k := 4) (by decide) hc204); omega) (v := (own_l5 v18 v24 v30 v36 v42 an)) rfl (g := (mkF m 184 #[.val (.long l1), .second, .val (.int w1), .val (.int n1), .val (.int a1), .val (.int t1), .val (.ref b15), .val (.int (4 : Int32)), .val (.int v51), .val (.int v54), .val (.int v57), .val (.int v60), .val (.ref b177), .val (.int v196), .val (.int v199), .unset] [(.int v196), (.ref b15)])) rfl rfl (hb hby at_184) _ ?_
                show Steps p.tables e below (T193.setTop (mkF m 185 #[.val (.long l1), .second, .val (.int w1), .val (.int n1), .val (.int a1), .val (.int t1), .val (.ref b15), .val (.int (4 : Int32)), .val (.int v51), .val (.int v54), .val (.int v57), .val (.int v60), .val (.ref b177), .val (.int v196), .val (.int v199), .unset] [(.int (own_l5 v18 v24 v30 v36 v42 an))])) _
                refine XS.iload X193.here hx rfl (hb hby at_185) rfl ?_
                show Steps p.tables e below (T193.setTop (mkF m 187 #[.val (.long l1), .second, .val (.int w1), .val (.int n1), .val (.int a1), .val (.int t1), .val (.ref b15), .val (.int (4 : Int32)), .val (.int v51), .val (.int v54), .val (.int v57), .val (.int v60), .val (.ref b177), .val (.int v196), .val (.int v199), .unset] [(.int v51), (.int (own_l5 v18 v24 v30 v36 v42 an))])) _
                refine XS.icmpNo X193.here hx rfl (hb hby at_187) rfl (teq hc205).2 ?_
                show Steps p.tables e below (T193.setTop (mkF m 190 #[.val (.long l1), .second, .val (.int w1), .val (.int n1), .val (.int a1), .val (.int t1), .val (.ref b15), .val (.int (4 : Int32)), .val (.int v51), .val (.int v54), .val (.int v57), .val (.int v60), .val (.ref b177), .val (.int v196), .val (.int v199), .unset] [])) _
                refine XS.iload X193.here hx rfl (hb hby at_190) rfl ?_
                show Steps p.tables e below (T193.setTop (mkF m 192 #[.val (.long l1), .second, .val (.int w1), .val (.int n1), .val (.int a1), .val (.int t1), .val (.ref b15), .val (.int (4 : Int32)), .val (.int v51), .val (.int v54), .val (.int v57), .val (.int v60), .val (.ref b177), .val (.int v196), .val (.int v199), .unset] [(.int (4 : Int32))])) _
                refine XS.iconst X193.here hx rfl (hb hby at_192) ?_
                show Steps p.tables e below (T193.setTop (mkF m 193 #[.val (.long l1), .second, .val (.int w1), .val (.int n1), .val (.int a1), .val (.int t1), .val (.ref b15), .val (.int (4 : Int32)), .val (.int v51), .val (.int v54), .val (.int v57), .val (.int v60), .val (.ref b177), .val (.int v196), .val (.int v199), .unset] [(.int (2 : Int32)), (.int (4 : Int32))])) _
                refine XS.icmpNo X193.here hx rfl (hb hby at_193) rfl (flt (by decide)).1 ?_
                show Steps p.tables e below (T193.setTop (mkF m 196 #[.val (.long l1), .second, .val (.int w1), .val (.int n1), .val (.int a1), .val (.int t1), .val (.ref b15), .val (.int (4 : Int32)), .val (.int v51), .val (.int v54), .val (.int v57), .val (.int v60), .val (.ref b177), .val (.int v196), .val (.int v199), .unset] [])) _
                refine XS.aload X193.here hx rfl (hb hby at_196) rfl rfl ?_
                show Steps p.tables e below (T193.setTop (mkF m 198 #[.val (.long l1), .second, .val (.int w1), .val (.int n1), .val (.int a1), .val (.int t1), .val (.ref b15), .val (.int (4 : Int32)), .val (.int v51), .val (.int v54), .val (.int v57), .val (.int v60), .val (.ref b177), .val (.int v196), .val (.int v199), .unset] [(.ref b15)])) _
                refine XS.iload X193.here hx rfl (hb hby at_198) rfl ?_
                show Steps p.tables e below (T193.setTop (mkF m 200 #[.val (.long l1), .second, .val (.int w1), .val (.int n1), .val (.int a1), .val (.int t1), .val (.ref b15), .val (.int (4 : Int32)), .val (.int v51), .val (.int v54), .val (.int v57), .val (.int v60), .val (.ref b177), .val (.int v196), .val (.int v199), .unset] [(.int v196), (.ref b15)])) _
                refine XS.iconst X193.here hx rfl (hb hby at_200) ?_
                show Steps p.tables e below (T193.setTop (mkF m 201 #[.val (.long l1), .second, .val (.int w1), .val (.int n1), .val (.int a1), .val (.int t1), .val (.ref b15), .val (.int (4 : Int32)), .val (.int v51), .val (.int v54), .val (.int v57), .val (.int v60), .val (.ref b177), .val (.int v196), .val (.int v199), .unset] [(.int (1 : Int32)), (.int v196), (.ref b15)])) _
                refine XS.iadd X193.here hx rfl (hb hby at_201) rfl ?_
                show Steps p.tables e below (T193.setTop (mkF m 202 #[.val (.long l1), .second, .val (.int w1), .val (.int n1), .val (.int a1), .val (.int t1), .val (.ref b15), .val (.int (4 : Int32)), .val (.int v51), .val (.int v54), .val (.int v57), .val (.int v60), .val (.ref b177), .val (.int v196), .val (.int v199), .unset] [(.int (v196 + (1 : Int32))), (.ref b15)])) _
                refine ArF.ldB X193 hx hZ e193 f202 (i := (an + 1)) (own_plus hat (by omega) (i := 1) (by decide) (by omega)) (by have := (own_bd hdd htn (k := 4) (by decide) hc204); omega) (v := (own_l5 v18 v24 v30 v36 v42 (an + 1))) rfl (g := (mkF m 202 #[.val (.long l1), .second, .val (.int w1), .val (.int n1), .val (.int a1), .val (.int t1), .val (.ref b15), .val (.int (4 : Int32)), .val (.int v51), .val (.int v54), .val (.int v57), .val (.int v60), .val (.ref b177), .val (.int v196), .val (.int v199), .unset] [(.int (v196 + (1 : Int32))), (.ref b15)])) rfl rfl (hb hby at_202) _ ?_
                show Steps p.tables e below (T193.setTop (mkF m 203 #[.val (.long l1), .second, .val (.int w1), .val (.int n1), .val (.int a1), .val (.int t1), .val (.ref b15), .val (.int (4 : Int32)), .val (.int v51), .val (.int v54), .val (.int v57), .val (.int v60), .val (.ref b177), .val (.int v196), .val (.int v199), .unset] [(.int (own_l5 v18 v24 v30 v36 v42 (an + 1)))])) _
                refine XS.iload X193.here hx rfl (hb hby at_203) rfl ?_
                show Steps p.tables e below (T193.setTop (mkF m 205 #[.val (.long l1), .second, .val (.int w1), .val (.int n1), .val (.int a1), .val (.int t1), .val (.ref b15), .val (.int (4 : Int32)), .val (.int v51), .val (.int v54), .val (.int v57), .val (.int v60), .val (.ref b177), .val (.int v196), .val (.int v199), .unset] [(.int v54), (.int (own_l5 v18 v24 v30 v36 v42 (an + 1)))])) _
                refine XS.icmpNo X193.here hx rfl (hb hby at_205) rfl (teq hc206).2 ?_
                show Steps p.tables e below (T193.setTop (mkF m 208 #[.val (.long l1), .second, .val (.int w1), .val (.int n1), .val (.int a1), .val (.int t1), .val (.ref b15), .val (.int (4 : Int32)), .val (.int v51), .val (.int v54), .val (.int v57), .val (.int v60), .val (.ref b177), .val (.int v196), .val (.int v199), .unset] [])) _
                refine XS.iload X193.here hx rfl (hb hby at_208) rfl ?_
                show Steps p.tables e below (T193.setTop (mkF m 210 #[.val (.long l1), .second, .val (.int w1), .val (.int n1), .val (.int a1), .val (.int t1), .val (.ref b15), .val (.int (4 : Int32)), .val (.int v51), .val (.int v54), .val (.int v57), .val (.int v60), .val (.ref b177), .val (.int v196), .val (.int v199), .unset] [(.int (4 : Int32))])) _
                refine XS.iconst X193.here hx rfl (hb hby at_210) ?_
                show Steps p.tables e below (T193.setTop (mkF m 211 #[.val (.long l1), .second, .val (.int w1), .val (.int n1), .val (.int a1), .val (.int t1), .val (.ref b15), .val (.int (4 : Int32)), .val (.int v51), .val (.int v54), .val (.int v57), .val (.int v60), .val (.ref b177), .val (.int v196), .val (.int v199), .unset] [(.int (3 : Int32)), (.int (4 : Int32))])) _
                refine XS.icmpNo X193.here hx rfl (hb hby at_211) rfl (flt (by decide)).1 ?_
                show Steps p.tables e below (T193.setTop (mkF m 214 #[.val (.long l1), .second, .val (.int w1), .val (.int n1), .val (.int a1), .val (.int t1), .val (.ref b15), .val (.int (4 : Int32)), .val (.int v51), .val (.int v54), .val (.int v57), .val (.int v60), .val (.ref b177), .val (.int v196), .val (.int v199), .unset] [])) _
                refine XS.aload X193.here hx rfl (hb hby at_214) rfl rfl ?_
                show Steps p.tables e below (T193.setTop (mkF m 216 #[.val (.long l1), .second, .val (.int w1), .val (.int n1), .val (.int a1), .val (.int t1), .val (.ref b15), .val (.int (4 : Int32)), .val (.int v51), .val (.int v54), .val (.int v57), .val (.int v60), .val (.ref b177), .val (.int v196), .val (.int v199), .unset] [(.ref b15)])) _
                refine XS.iload X193.here hx rfl (hb hby at_216) rfl ?_
                show Steps p.tables e below (T193.setTop (mkF m 218 #[.val (.long l1), .second, .val (.int w1), .val (.int n1), .val (.int a1), .val (.int t1), .val (.ref b15), .val (.int (4 : Int32)), .val (.int v51), .val (.int v54), .val (.int v57), .val (.int v60), .val (.ref b177), .val (.int v196), .val (.int v199), .unset] [(.int v196), (.ref b15)])) _
                refine XS.iconst X193.here hx rfl (hb hby at_218) ?_
                show Steps p.tables e below (T193.setTop (mkF m 219 #[.val (.long l1), .second, .val (.int w1), .val (.int n1), .val (.int a1), .val (.int t1), .val (.ref b15), .val (.int (4 : Int32)), .val (.int v51), .val (.int v54), .val (.int v57), .val (.int v60), .val (.ref b177), .val (.int v196), .val (.int v199), .unset] [(.int (2 : Int32)), (.int v196), (.ref b15)])) _
                refine XS.iadd X193.here hx rfl (hb hby at_219) rfl ?_
                show Steps p.tables e below (T193.setTop (mkF m 220 #[.val (.long l1), .second, .val (.int w1), .val (.int n1), .val (.int a1), .val (.int t1), .val (.ref b15), .val (.int (4 : Int32)), .val (.int v51), .val (.int v54), .val (.int v57), .val (.int v60), .val (.ref b177), .val (.int v196), .val (.int v199), .unset] [(.int (v196 + (2 : Int32))), (.ref b15)])) _
                refine ArF.ldB X193 hx hZ e193 f202 (i := (an + 2)) (own_plus hat (by omega) (i := 2) (by decide) (by omega)) (by have := (own_bd hdd htn (k := 4) (by decide) hc204); omega) (v := (own_l5 v18 v24 v30 v36 v42 (an + 2))) rfl (g := (mkF m 220 #[.val (.long l1), .second, .val (.int w1), .val (.int n1), .val (.int a1), .val (.int t1), .val (.ref b15), .val (.int (4 : Int32)), .val (.int v51), .val (.int v54), .val (.int v57), .val (.int v60), .val (.ref b177), .val (.int v196), .val (.int v199), .unset] [(.int (v196 + (2 : Int32))), (.ref b15)])) rfl rfl (hb hby at_220) _ ?_
                show Steps p.tables e below (T193.setTop (mkF m 221 #[.val (.long l1), .second, .val (.int w1), .val (.int n1), .val (.int a1), .val (.int t1), .val (.ref b15), .val (.int (4 : Int32)), .val (.int v51), .val (.int v54), .val (.int v57), .val (.int v60), .val (.ref b177), .val (.int v196), .val (.int v199), .unset] [(.int (own_l5 v18 v24 v30 v36 v42 (an + 2)))])) _
                refine XS.iload X193.here hx rfl (hb hby at_221) rfl ?_
                show Steps p.tables e below (T193.setTop (mkF m 223 #[.val (.long l1), .second, .val (.int w1), .val (.int n1), .val (.int a1), .val (.int t1), .val (.ref b15), .val (.int (4 : Int32)), .val (.int v51), .val (.int v54), .val (.int v57), .val (.int v60), .val (.ref b177), .val (.int v196), .val (.int v199), .unset] [(.int v57), (.int (own_l5 v18 v24 v30 v36 v42 (an + 2)))])) _
                refine XS.icmpNo X193.here hx rfl (hb hby at_223) rfl (teq hc207).2 ?_
                show Steps p.tables e below (T193.setTop (mkF m 226 #[.val (.long l1), .second, .val (.int w1), .val (.int n1), .val (.int a1), .val (.int t1), .val (.ref b15), .val (.int (4 : Int32)), .val (.int v51), .val (.int v54), .val (.int v57), .val (.int v60), .val (.ref b177), .val (.int v196), .val (.int v199), .unset] [])) _
                refine XS.iload X193.here hx rfl (hb hby at_226) rfl ?_
                show Steps p.tables e below (T193.setTop (mkF m 228 #[.val (.long l1), .second, .val (.int w1), .val (.int n1), .val (.int a1), .val (.int t1), .val (.ref b15), .val (.int (4 : Int32)), .val (.int v51), .val (.int v54), .val (.int v57), .val (.int v60), .val (.ref b177), .val (.int v196), .val (.int v199), .unset] [(.int (4 : Int32))])) _
                refine XS.iconst X193.here hx rfl (hb hby at_228) ?_
                show Steps p.tables e below (T193.setTop (mkF m 229 #[.val (.long l1), .second, .val (.int w1), .val (.int n1), .val (.int a1), .val (.int t1), .val (.ref b15), .val (.int (4 : Int32)), .val (.int v51), .val (.int v54), .val (.int v57), .val (.int v60), .val (.ref b177), .val (.int v196), .val (.int v199), .unset] [(.int (4 : Int32)), (.int (4 : Int32))])) _
                refine XS.icmpNo X193.here hx rfl (hb hby at_229) rfl (flt (by decide)).1 ?_
                show Steps p.tables e below (T193.setTop (mkF m 232 #[.val (.long l1), .second, .val (.int w1), .val (.int n1), .val (.int a1), .val (.int t1), .val (.ref b15), .val (.int (4 : Int32)), .val (.int v51), .val (.int v54), .val (.int v57), .val (.int v60), .val (.ref b177), .val (.int v196), .val (.int v199), .unset] [])) _
                refine XS.aload X193.here hx rfl (hb hby at_232) rfl rfl ?_
                show Steps p.tables e below (T193.setTop (mkF m 234 #[.val (.long l1), .second, .val (.int w1), .val (.int n1), .val (.int a1), .val (.int t1), .val (.ref b15), .val (.int (4 : Int32)), .val (.int v51), .val (.int v54), .val (.int v57), .val (.int v60), .val (.ref b177), .val (.int v196), .val (.int v199), .unset] [(.ref b15)])) _
                refine XS.iload X193.here hx rfl (hb hby at_234) rfl ?_
                show Steps p.tables e below (T193.setTop (mkF m 236 #[.val (.long l1), .second, .val (.int w1), .val (.int n1), .val (.int a1), .val (.int t1), .val (.ref b15), .val (.int (4 : Int32)), .val (.int v51), .val (.int v54), .val (.int v57), .val (.int v60), .val (.ref b177), .val (.int v196), .val (.int v199), .unset] [(.int v196), (.ref b15)])) _
                refine XS.iconst X193.here hx rfl (hb hby at_236) ?_
                show Steps p.tables e below (T193.setTop (mkF m 237 #[.val (.long l1), .second, .val (.int w1), .val (.int n1), .val (.int a1), .val (.int t1), .val (.ref b15), .val (.int (4 : Int32)), .val (.int v51), .val (.int v54), .val (.int v57), .val (.int v60), .val (.ref b177), .val (.int v196), .val (.int v199), .unset] [(.int (3 : Int32)), (.int v196), (.ref b15)])) _
                refine XS.iadd X193.here hx rfl (hb hby at_237) rfl ?_
                show Steps p.tables e below (T193.setTop (mkF m 238 #[.val (.long l1), .second, .val (.int w1), .val (.int n1), .val (.int a1), .val (.int t1), .val (.ref b15), .val (.int (4 : Int32)), .val (.int v51), .val (.int v54), .val (.int v57), .val (.int v60), .val (.ref b177), .val (.int v196), .val (.int v199), .unset] [(.int (v196 + (3 : Int32))), (.ref b15)])) _
                refine ArF.ldB X193 hx hZ e193 f202 (i := (an + 3)) (own_plus hat (by omega) (i := 3) (by decide) (by omega)) (by have := (own_bd hdd htn (k := 4) (by decide) hc204); omega) (v := (own_l5 v18 v24 v30 v36 v42 (an + 3))) rfl (g := (mkF m 238 #[.val (.long l1), .second, .val (.int w1), .val (.int n1), .val (.int a1), .val (.int t1), .val (.ref b15), .val (.int (4 : Int32)), .val (.int v51), .val (.int v54), .val (.int v57), .val (.int v60), .val (.ref b177), .val (.int v196), .val (.int v199), .unset] [(.int (v196 + (3 : Int32))), (.ref b15)])) rfl rfl (hb hby at_238) _ ?_
                show Steps p.tables e below (T193.setTop (mkF m 239 #[.val (.long l1), .second, .val (.int w1), .val (.int n1), .val (.int a1), .val (.int t1), .val (.ref b15), .val (.int (4 : Int32)), .val (.int v51), .val (.int v54), .val (.int v57), .val (.int v60), .val (.ref b177), .val (.int v196), .val (.int v199), .unset] [(.int (own_l5 v18 v24 v30 v36 v42 (an + 3)))])) _
                refine XS.iload X193.here hx rfl (hb hby at_239) rfl ?_
                show Steps p.tables e below (T193.setTop (mkF m 241 #[.val (.long l1), .second, .val (.int w1), .val (.int n1), .val (.int a1), .val (.int t1), .val (.ref b15), .val (.int (4 : Int32)), .val (.int v51), .val (.int v54), .val (.int v57), .val (.int v60), .val (.ref b177), .val (.int v196), .val (.int v199), .unset] [(.int v60), (.int (own_l5 v18 v24 v30 v36 v42 (an + 3)))])) _
                refine XS.icmpNo X193.here hx rfl (hb hby at_241) rfl (teq hc208).2 ?_
                show Steps p.tables e below (T193.setTop (mkF m 244 #[.val (.long l1), .second, .val (.int w1), .val (.int n1), .val (.int a1), .val (.int t1), .val (.ref b15), .val (.int (4 : Int32)), .val (.int v51), .val (.int v54), .val (.int v57), .val (.int v60), .val (.ref b177), .val (.int v196), .val (.int v199), .unset] [])) _
                refine XS.iconst X193.here hx rfl (hb hby at_244) ?_
                show Steps p.tables e below (T193.setTop (mkF m 245 #[.val (.long l1), .second, .val (.int w1), .val (.int n1), .val (.int a1), .val (.int t1), .val (.ref b15), .val (.int (4 : Int32)), .val (.int v51), .val (.int v54), .val (.int v57), .val (.int v60), .val (.ref b177), .val (.int v196), .val (.int v199), .unset] [(.int (1 : Int32))])) _
                refine XS.goto X193.here hx rfl (pc0 := 245) (pc' := 249) rfl (hb hby at_245) (by decide) (by decide) ?_
                exact kt
              · simp only [if_neg hc204, if_pos hc205, if_pos hc206, if_pos hc207, if_neg hc208] at kt
                show Steps p.tables e below (T193.setTop (mkF m 171 #[.val (.long l1), .second, .val (.int w1), .val (.int n1), .val (.int a1), .val (.int t1), .val (.ref b15), .val (.int (4 : Int32)), .val (.int v51), .val (.int v54), .val (.int v57), .val (.int v60), .val (.ref b177), .val (.int v196), .val (.int v199), .unset] [(.int (v199 - v196)), (.int (4 : Int32))])) _
                refine XS.icmpNo X193.here hx rfl (hb hby at_171) rfl (flt hc204).2.2.1 ?_
                show Steps p.tables e below (T193.setTop (mkF m 174 #[.val (.long l1), .second, .val (.int w1), .val (.int n1), .val (.int a1), .val (.int t1), .val (.ref b15), .val (.int (4 : Int32)), .val (.int v51), .val (.int v54), .val (.int v57), .val (.int v60), .val (.ref b177), .val (.int v196), .val (.int v199), .unset] [])) _
                refine XS.iload X193.here hx rfl (hb hby at_174) rfl ?_
                show Steps p.tables e below (T193.setTop (mkF m 176 #[.val (.long l1), .second, .val (.int w1), .val (.int n1), .val (.int a1), .val (.int t1), .val (.ref b15), .val (.int (4 : Int32)), .val (.int v51), .val (.int v54), .val (.int v57), .val (.int v60), .val (.ref b177), .val (.int v196), .val (.int v199), .unset] [(.int (4 : Int32))])) _
                refine XS.iconst X193.here hx rfl (hb hby at_176) ?_
                show Steps p.tables e below (T193.setTop (mkF m 177 #[.val (.long l1), .second, .val (.int w1), .val (.int n1), .val (.int a1), .val (.int t1), .val (.ref b15), .val (.int (4 : Int32)), .val (.int v51), .val (.int v54), .val (.int v57), .val (.int v60), .val (.ref b177), .val (.int v196), .val (.int v199), .unset] [(.int (1 : Int32)), (.int (4 : Int32))])) _
                refine XS.icmpNo X193.here hx rfl (hb hby at_177) rfl (flt (by decide)).1 ?_
                show Steps p.tables e below (T193.setTop (mkF m 180 #[.val (.long l1), .second, .val (.int w1), .val (.int n1), .val (.int a1), .val (.int t1), .val (.ref b15), .val (.int (4 : Int32)), .val (.int v51), .val (.int v54), .val (.int v57), .val (.int v60), .val (.ref b177), .val (.int v196), .val (.int v199), .unset] [])) _
                refine XS.aload X193.here hx rfl (hb hby at_180) rfl rfl ?_
                show Steps p.tables e below (T193.setTop (mkF m 182 #[.val (.long l1), .second, .val (.int w1), .val (.int n1), .val (.int a1), .val (.int t1), .val (.ref b15), .val (.int (4 : Int32)), .val (.int v51), .val (.int v54), .val (.int v57), .val (.int v60), .val (.ref b177), .val (.int v196), .val (.int v199), .unset] [(.ref b15)])) _
                refine XS.iload X193.here hx rfl (hb hby at_182) rfl ?_
                show Steps p.tables e below (T193.setTop (mkF m 184 #[.val (.long l1), .second, .val (.int w1), .val (.int n1), .val (.int a1), .val (.int t1), .val (.ref b15), .val (.int (4 : Int32)), .val (.int v51), .val (.int v54), .val (.int v57), .val (.int v60), .val (.ref b177), .val (.int v196), .val (.int v199), .unset] [(.int v196), (.ref b15)])) _
                refine ArF.ldB X193 hx hZ e193 f202 (i := an) hat (by have := (own_bd hdd htn (k := 4) (by decide) hc204); omega) (v := (own_l5 v18 v24 v30 v36 v42 an)) rfl (g := (mkF m 184 #[.val (.long l1), .second, .val (.int w1), .val (.int n1), .val (.int a1), .val (.int t1), .val (.ref b15), .val (.int (4 : Int32)), .val (.int v51), .val (.int v54), .val (.int v57), .val (.int v60), .val (.ref b177), .val (.int v196), .val (.int v199), .unset] [(.int v196), (.ref b15)])) rfl rfl (hb hby at_184) _ ?_
                show Steps p.tables e below (T193.setTop (mkF m 185 #[.val (.long l1), .second, .val (.int w1), .val (.int n1), .val (.int a1), .val (.int t1), .val (.ref b15), .val (.int (4 : Int32)), .val (.int v51), .val (.int v54), .val (.int v57), .val (.int v60), .val (.ref b177), .val (.int v196), .val (.int v199), .unset] [(.int (own_l5 v18 v24 v30 v36 v42 an))])) _
                refine XS.iload X193.here hx rfl (hb hby at_185) rfl ?_
                show Steps p.tables e below (T193.setTop (mkF m 187 #[.val (.long l1), .second, .val (.int w1), .val (.int n1), .val (.int a1), .val (.int t1), .val (.ref b15), .val (.int (4 : Int32)), .val (.int v51), .val (.int v54), .val (.int v57), .val (.int v60), .val (.ref b177), .val (.int v196), .val (.int v199), .unset] [(.int v51), (.int (own_l5 v18 v24 v30 v36 v42 an))])) _
                refine XS.icmpNo X193.here hx rfl (hb hby at_187) rfl (teq hc205).2 ?_
                show Steps p.tables e below (T193.setTop (mkF m 190 #[.val (.long l1), .second, .val (.int w1), .val (.int n1), .val (.int a1), .val (.int t1), .val (.ref b15), .val (.int (4 : Int32)), .val (.int v51), .val (.int v54), .val (.int v57), .val (.int v60), .val (.ref b177), .val (.int v196), .val (.int v199), .unset] [])) _
                refine XS.iload X193.here hx rfl (hb hby at_190) rfl ?_
                show Steps p.tables e below (T193.setTop (mkF m 192 #[.val (.long l1), .second, .val (.int w1), .val (.int n1), .val (.int a1), .val (.int t1), .val (.ref b15), .val (.int (4 : Int32)), .val (.int v51), .val (.int v54), .val (.int v57), .val (.int v60), .val (.ref b177), .val (.int v196), .val (.int v199), .unset] [(.int (4 : Int32))])) _
                refine XS.iconst X193.here hx rfl (hb hby at_192) ?_
                show Steps p.tables e below (T193.setTop (mkF m 193 #[.val (.long l1), .second, .val (.int w1), .val (.int n1), .val (.int a1), .val (.int t1), .val (.ref b15), .val (.int (4 : Int32)), .val (.int v51), .val (.int v54), .val (.int v57), .val (.int v60), .val (.ref b177), .val (.int v196), .val (.int v199), .unset] [(.int (2 : Int32)), (.int (4 : Int32))])) _
                refine XS.icmpNo X193.here hx rfl (hb hby at_193) rfl (flt (by decide)).1 ?_
                show Steps p.tables e below (T193.setTop (mkF m 196 #[.val (.long l1), .second, .val (.int w1), .val (.int n1), .val (.int a1), .val (.int t1), .val (.ref b15), .val (.int (4 : Int32)), .val (.int v51), .val (.int v54), .val (.int v57), .val (.int v60), .val (.ref b177), .val (.int v196), .val (.int v199), .unset] [])) _
                refine XS.aload X193.here hx rfl (hb hby at_196) rfl rfl ?_
                show Steps p.tables e below (T193.setTop (mkF m 198 #[.val (.long l1), .second, .val (.int w1), .val (.int n1), .val (.int a1), .val (.int t1), .val (.ref b15), .val (.int (4 : Int32)), .val (.int v51), .val (.int v54), .val (.int v57), .val (.int v60), .val (.ref b177), .val (.int v196), .val (.int v199), .unset] [(.ref b15)])) _
                refine XS.iload X193.here hx rfl (hb hby at_198) rfl ?_
                show Steps p.tables e below (T193.setTop (mkF m 200 #[.val (.long l1), .second, .val (.int w1), .val (.int n1), .val (.int a1), .val (.int t1), .val (.ref b15), .val (.int (4 : Int32)), .val (.int v51), .val (.int v54), .val (.int v57), .val (.int v60), .val (.ref b177), .val (.int v196), .val (.int v199), .unset] [(.int v196), (.ref b15)])) _
                refine XS.iconst X193.here hx rfl (hb hby at_200) ?_
                show Steps p.tables e below (T193.setTop (mkF m 201 #[.val (.long l1), .second, .val (.int w1), .val (.int n1), .val (.int a1), .val (.int t1), .val (.ref b15), .val (.int (4 : Int32)), .val (.int v51), .val (.int v54), .val (.int v57), .val (.int v60), .val (.ref b177), .val (.int v196), .val (.int v199), .unset] [(.int (1 : Int32)), (.int v196), (.ref b15)])) _
                refine XS.iadd X193.here hx rfl (hb hby at_201) rfl ?_
                show Steps p.tables e below (T193.setTop (mkF m 202 #[.val (.long l1), .second, .val (.int w1), .val (.int n1), .val (.int a1), .val (.int t1), .val (.ref b15), .val (.int (4 : Int32)), .val (.int v51), .val (.int v54), .val (.int v57), .val (.int v60), .val (.ref b177), .val (.int v196), .val (.int v199), .unset] [(.int (v196 + (1 : Int32))), (.ref b15)])) _
                refine ArF.ldB X193 hx hZ e193 f202 (i := (an + 1)) (own_plus hat (by omega) (i := 1) (by decide) (by omega)) (by have := (own_bd hdd htn (k := 4) (by decide) hc204); omega) (v := (own_l5 v18 v24 v30 v36 v42 (an + 1))) rfl (g := (mkF m 202 #[.val (.long l1), .second, .val (.int w1), .val (.int n1), .val (.int a1), .val (.int t1), .val (.ref b15), .val (.int (4 : Int32)), .val (.int v51), .val (.int v54), .val (.int v57), .val (.int v60), .val (.ref b177), .val (.int v196), .val (.int v199), .unset] [(.int (v196 + (1 : Int32))), (.ref b15)])) rfl rfl (hb hby at_202) _ ?_
                show Steps p.tables e below (T193.setTop (mkF m 203 #[.val (.long l1), .second, .val (.int w1), .val (.int n1), .val (.int a1), .val (.int t1), .val (.ref b15), .val (.int (4 : Int32)), .val (.int v51), .val (.int v54), .val (.int v57), .val (.int v60), .val (.ref b177), .val (.int v196), .val (.int v199), .unset] [(.int (own_l5 v18 v24 v30 v36 v42 (an + 1)))])) _
                refine XS.iload X193.here hx rfl (hb hby at_203) rfl ?_
                show Steps p.tables e below (T193.setTop (mkF m 205 #[.val (.long l1), .second, .val (.int w1), .val (.int n1), .val (.int a1), .val (.int t1), .val (.ref b15), .val (.int (4 : Int32)), .val (.int v51), .val (.int v54), .val (.int v57), .val (.int v60), .val (.ref b177), .val (.int v196), .val (.int v199), .unset] [(.int v54), (.int (own_l5 v18 v24 v30 v36 v42 (an + 1)))])) _
                refine XS.icmpNo X193.here hx rfl (hb hby at_205) rfl (teq hc206).2 ?_
                show Steps p.tables e below (T193.setTop (mkF m 208 #[.val (.long l1), .second, .val (.int w1), .val (.int n1), .val (.int a1), .val (.int t1), .val (.ref b15), .val (.int (4 : Int32)), .val (.int v51), .val (.int v54), .val (.int v57), .val (.int v60), .val (.ref b177), .val (.int v196), .val (.int v199), .unset] [])) _
                refine XS.iload X193.here hx rfl (hb hby at_208) rfl ?_
                show Steps p.tables e below (T193.setTop (mkF m 210 #[.val (.long l1), .second, .val (.int w1), .val (.int n1), .val (.int a1), .val (.int t1), .val (.ref b15), .val (.int (4 : Int32)), .val (.int v51), .val (.int v54), .val (.int v57), .val (.int v60), .val (.ref b177), .val (.int v196), .val (.int v199), .unset] [(.int (4 : Int32))])) _
                refine XS.iconst X193.here hx rfl (hb hby at_210) ?_
                show Steps p.tables e below (T193.setTop (mkF m 211 #[.val (.long l1), .second, .val (.int w1), .val (.int n1), .val (.int a1), .val (.int t1), .val (.ref b15), .val (.int (4 : Int32)), .val (.int v51), .val (.int v54), .val (.int v57), .val (.int v60), .val (.ref b177), .val (.int v196), .val (.int v199), .unset] [(.int (3 : Int32)), (.int (4 : Int32))])) _
                refine XS.icmpNo X193.here hx rfl (hb hby at_211) rfl (flt (by decide)).1 ?_
                show Steps p.tables e below (T193.setTop (mkF m 214 #[.val (.long l1), .second, .val (.int w1), .val (.int n1), .val (.int a1), .val (.int t1), .val (.ref b15), .val (.int (4 : Int32)), .val (.int v51), .val (.int v54), .val (.int v57), .val (.int v60), .val (.ref b177), .val (.int v196), .val (.int v199), .unset] [])) _
                refine XS.aload X193.here hx rfl (hb hby at_214) rfl rfl ?_
                show Steps p.tables e below (T193.setTop (mkF m 216 #[.val (.long l1), .second, .val (.int w1), .val (.int n1), .val (.int a1), .val (.int t1), .val (.ref b15), .val (.int (4 : Int32)), .val (.int v51), .val (.int v54), .val (.int v57), .val (.int v60), .val (.ref b177), .val (.int v196), .val (.int v199), .unset] [(.ref b15)])) _
                refine XS.iload X193.here hx rfl (hb hby at_216) rfl ?_
                show Steps p.tables e below (T193.setTop (mkF m 218 #[.val (.long l1), .second, .val (.int w1), .val (.int n1), .val (.int a1), .val (.int t1), .val (.ref b15), .val (.int (4 : Int32)), .val (.int v51), .val (.int v54), .val (.int v57), .val (.int v60), .val (.ref b177), .val (.int v196), .val (.int v199), .unset] [(.int v196), (.ref b15)])) _
                refine XS.iconst X193.here hx rfl (hb hby at_218) ?_
                show Steps p.tables e below (T193.setTop (mkF m 219 #[.val (.long l1), .second, .val (.int w1), .val (.int n1), .val (.int a1), .val (.int t1), .val (.ref b15), .val (.int (4 : Int32)), .val (.int v51), .val (.int v54), .val (.int v57), .val (.int v60), .val (.ref b177), .val (.int v196), .val (.int v199), .unset] [(.int (2 : Int32)), (.int v196), (.ref b15)])) _
                refine XS.iadd X193.here hx rfl (hb hby at_219) rfl ?_
                show Steps p.tables e below (T193.setTop (mkF m 220 #[.val (.long l1), .second, .val (.int w1), .val (.int n1), .val (.int a1), .val (.int t1), .val (.ref b15), .val (.int (4 : Int32)), .val (.int v51), .val (.int v54), .val (.int v57), .val (.int v60), .val (.ref b177), .val (.int v196), .val (.int v199), .unset] [(.int (v196 + (2 : Int32))), (.ref b15)])) _
                refine ArF.ldB X193 hx hZ e193 f202 (i := (an + 2)) (own_plus hat (by omega) (i := 2) (by decide) (by omega)) (by have := (own_bd hdd htn (k := 4) (by decide) hc204); omega) (v := (own_l5 v18 v24 v30 v36 v42 (an + 2))) rfl (g := (mkF m 220 #[.val (.long l1), .second, .val (.int w1), .val (.int n1), .val (.int a1), .val (.int t1), .val (.ref b15), .val (.int (4 : Int32)), .val (.int v51), .val (.int v54), .val (.int v57), .val (.int v60), .val (.ref b177), .val (.int v196), .val (.int v199), .unset] [(.int (v196 + (2 : Int32))), (.ref b15)])) rfl rfl (hb hby at_220) _ ?_
                show Steps p.tables e below (T193.setTop (mkF m 221 #[.val (.long l1), .second, .val (.int w1), .val (.int n1), .val (.int a1), .val (.int t1), .val (.ref b15), .val (.int (4 : Int32)), .val (.int v51), .val (.int v54), .val (.int v57), .val (.int v60), .val (.ref b177), .val (.int v196), .val (.int v199), .unset] [(.int (own_l5 v18 v24 v30 v36 v42 (an + 2)))])) _
                refine XS.iload X193.here hx rfl (hb hby at_221) rfl ?_
                show Steps p.tables e below (T193.setTop (mkF m 223 #[.val (.long l1), .second, .val (.int w1), .val (.int n1), .val (.int a1), .val (.int t1), .val (.ref b15), .val (.int (4 : Int32)), .val (.int v51), .val (.int v54), .val (.int v57), .val (.int v60), .val (.ref b177), .val (.int v196), .val (.int v199), .unset] [(.int v57), (.int (own_l5 v18 v24 v30 v36 v42 (an + 2)))])) _
                refine XS.icmpNo X193.here hx rfl (hb hby at_223) rfl (teq hc207).2 ?_
                show Steps p.tables e below (T193.setTop (mkF m 226 #[.val (.long l1), .second, .val (.int w1), .val (.int n1), .val (.int a1), .val (.int t1), .val (.ref b15), .val (.int (4 : Int32)), .val (.int v51), .val (.int v54), .val (.int v57), .val (.int v60), .val (.ref b177), .val (.int v196), .val (.int v199), .unset] [])) _
                refine XS.iload X193.here hx rfl (hb hby at_226) rfl ?_
                show Steps p.tables e below (T193.setTop (mkF m 228 #[.val (.long l1), .second, .val (.int w1), .val (.int n1), .val (.int a1), .val (.int t1), .val (.ref b15), .val (.int (4 : Int32)), .val (.int v51), .val (.int v54), .val (.int v57), .val (.int v60), .val (.ref b177), .val (.int v196), .val (.int v199), .unset] [(.int (4 : Int32))])) _
                refine XS.iconst X193.here hx rfl (hb hby at_228) ?_
                show Steps p.tables e below (T193.setTop (mkF m 229 #[.val (.long l1), .second, .val (.int w1), .val (.int n1), .val (.int a1), .val (.int t1), .val (.ref b15), .val (.int (4 : Int32)), .val (.int v51), .val (.int v54), .val (.int v57), .val (.int v60), .val (.ref b177), .val (.int v196), .val (.int v199), .unset] [(.int (4 : Int32)), (.int (4 : Int32))])) _
                refine XS.icmpNo X193.here hx rfl (hb hby at_229) rfl (flt (by decide)).1 ?_
                show Steps p.tables e below (T193.setTop (mkF m 232 #[.val (.long l1), .second, .val (.int w1), .val (.int n1), .val (.int a1), .val (.int t1), .val (.ref b15), .val (.int (4 : Int32)), .val (.int v51), .val (.int v54), .val (.int v57), .val (.int v60), .val (.ref b177), .val (.int v196), .val (.int v199), .unset] [])) _
                refine XS.aload X193.here hx rfl (hb hby at_232) rfl rfl ?_
                show Steps p.tables e below (T193.setTop (mkF m 234 #[.val (.long l1), .second, .val (.int w1), .val (.int n1), .val (.int a1), .val (.int t1), .val (.ref b15), .val (.int (4 : Int32)), .val (.int v51), .val (.int v54), .val (.int v57), .val (.int v60), .val (.ref b177), .val (.int v196), .val (.int v199), .unset] [(.ref b15)])) _
                refine XS.iload X193.here hx rfl (hb hby at_234) rfl ?_
                show Steps p.tables e below (T193.setTop (mkF m 236 #[.val (.long l1), .second, .val (.int w1), .val (.int n1), .val (.int a1), .val (.int t1), .val (.ref b15), .val (.int (4 : Int32)), .val (.int v51), .val (.int v54), .val (.int v57), .val (.int v60), .val (.ref b177), .val (.int v196), .val (.int v199), .unset] [(.int v196), (.ref b15)])) _
                refine XS.iconst X193.here hx rfl (hb hby at_236) ?_
                show Steps p.tables e below (T193.setTop (mkF m 237 #[.val (.long l1), .second, .val (.int w1), .val (.int n1), .val (.int a1), .val (.int t1), .val (.ref b15), .val (.int (4 : Int32)), .val (.int v51), .val (.int v54), .val (.int v57), .val (.int v60), .val (.ref b177), .val (.int v196), .val (.int v199), .unset] [(.int (3 : Int32)), (.int v196), (.ref b15)])) _
                refine XS.iadd X193.here hx rfl (hb hby at_237) rfl ?_
                show Steps p.tables e below (T193.setTop (mkF m 238 #[.val (.long l1), .second, .val (.int w1), .val (.int n1), .val (.int a1), .val (.int t1), .val (.ref b15), .val (.int (4 : Int32)), .val (.int v51), .val (.int v54), .val (.int v57), .val (.int v60), .val (.ref b177), .val (.int v196), .val (.int v199), .unset] [(.int (v196 + (3 : Int32))), (.ref b15)])) _
                refine ArF.ldB X193 hx hZ e193 f202 (i := (an + 3)) (own_plus hat (by omega) (i := 3) (by decide) (by omega)) (by have := (own_bd hdd htn (k := 4) (by decide) hc204); omega) (v := (own_l5 v18 v24 v30 v36 v42 (an + 3))) rfl (g := (mkF m 238 #[.val (.long l1), .second, .val (.int w1), .val (.int n1), .val (.int a1), .val (.int t1), .val (.ref b15), .val (.int (4 : Int32)), .val (.int v51), .val (.int v54), .val (.int v57), .val (.int v60), .val (.ref b177), .val (.int v196), .val (.int v199), .unset] [(.int (v196 + (3 : Int32))), (.ref b15)])) rfl rfl (hb hby at_238) _ ?_
                show Steps p.tables e below (T193.setTop (mkF m 239 #[.val (.long l1), .second, .val (.int w1), .val (.int n1), .val (.int a1), .val (.int t1), .val (.ref b15), .val (.int (4 : Int32)), .val (.int v51), .val (.int v54), .val (.int v57), .val (.int v60), .val (.ref b177), .val (.int v196), .val (.int v199), .unset] [(.int (own_l5 v18 v24 v30 v36 v42 (an + 3)))])) _
                refine XS.iload X193.here hx rfl (hb hby at_239) rfl ?_
                show Steps p.tables e below (T193.setTop (mkF m 241 #[.val (.long l1), .second, .val (.int w1), .val (.int n1), .val (.int a1), .val (.int t1), .val (.ref b15), .val (.int (4 : Int32)), .val (.int v51), .val (.int v54), .val (.int v57), .val (.int v60), .val (.ref b177), .val (.int v196), .val (.int v199), .unset] [(.int v60), (.int (own_l5 v18 v24 v30 v36 v42 (an + 3)))])) _
                refine XS.icmpYes X193.here hx rfl (pc0 := 241) (pc' := 248) rfl (hb hby at_241) rfl (feq hc208).2 (by decide) (by decide) ?_
                show Steps p.tables e below (T193.setTop (mkF m 248 #[.val (.long l1), .second, .val (.int w1), .val (.int n1), .val (.int a1), .val (.int t1), .val (.ref b15), .val (.int (4 : Int32)), .val (.int v51), .val (.int v54), .val (.int v57), .val (.int v60), .val (.ref b177), .val (.int v196), .val (.int v199), .unset] [])) _
                refine XS.iconst X193.here hx rfl (hb hby at_248) ?_
                exact kt
            · simp only [if_neg hc204, if_pos hc205, if_pos hc206, if_neg hc207] at kt
              show Steps p.tables e below (T193.setTop (mkF m 171 #[.val (.long l1), .second, .val (.int w1), .val (.int n1), .val (.int a1), .val (.int t1), .val (.ref b15), .val (.int (4 : Int32)), .val (.int v51), .val (.int v54), .val (.int v57), .val (.int v60), .val (.ref b177), .val (.int v196), .val (.int v199), .unset] [(.int (v199 - v196)), (.int (4 : Int32))])) _
              refine XS.icmpNo X193.here hx rfl (hb hby at_171) rfl (flt hc204).2.2.1 ?_
              show Steps p.tables e below (T193.setTop (mkF m 174 #[.val (.long l1), .second, .val (.int w1), .val (.int n1), .val (.int a1), .val (.int t1), .val (.ref b15), .val (.int (4 : Int32)), .val (.int v51), .val (.int v54), .val (.int v57), .val (.int v60), .val (.ref b177), .val (.int v196), .val (.int v199), .unset] [])) _
              refine XS.iload X193.here hx rfl (hb hby at_174) rfl ?_
              show Steps p.tables e below (T193.setTop (mkF m 176 #[.val (.long l1), .second, .val (.int w1), .val (.int n1), .val (.int a1), .val (.int t1), .val (.ref b15), .val (.int (4 : Int32)), .val (.int v51), .val (.int v54), .val (.int v57), .val (.int v60), .val (.ref b177), .val (.int v196), .val (.int v199), .unset] [(.int (4 : Int32))])) _
              refine XS.iconst X193.here hx rfl (hb hby at_176) ?_
              show Steps p.tables e below (T193.setTop (mkF m 177 #[.val (.long l1), .second, .val (.int w1), .val (.int n1), .val (.int a1), .val (.int t1), .val (.ref b15), .val (.int (4 : Int32)), .val (.int v51), .val (.int v54), .val (.int v57), .val (.int v60), .val (.ref b177), .val (.int v196), .val (.int v199), .unset] [(.int (1 : Int32)), (.int (4 : Int32))])) _
              refine XS.icmpNo X193.here hx rfl (hb hby at_177) rfl (flt (by decide)).1 ?_
              show Steps p.tables e below (T193.setTop (mkF m 180 #[.val (.long l1), .second, .val (.int w1), .val (.int n1), .val (.int a1), .val (.int t1), .val (.ref b15), .val (.int (4 : Int32)), .val (.int v51), .val (.int v54), .val (.int v57), .val (.int v60), .val (.ref b177), .val (.int v196), .val (.int v199), .unset] [])) _
              refine XS.aload X193.here hx rfl (hb hby at_180) rfl rfl ?_
              show Steps p.tables e below (T193.setTop (mkF m 182 #[.val (.long l1), .second, .val (.int w1), .val (.int n1), .val (.int a1), .val (.int t1), .val (.ref b15), .val (.int (4 : Int32)), .val (.int v51), .val (.int v54), .val (.int v57), .val (.int v60), .val (.ref b177), .val (.int v196), .val (.int v199), .unset] [(.ref b15)])) _
              refine XS.iload X193.here hx rfl (hb hby at_182) rfl ?_
              show Steps p.tables e below (T193.setTop (mkF m 184 #[.val (.long l1), .second, .val (.int w1), .val (.int n1), .val (.int a1), .val (.int t1), .val (.ref b15), .val (.int (4 : Int32)), .val (.int v51), .val (.int v54), .val (.int v57), .val (.int v60), .val (.ref b177), .val (.int v196), .val (.int v199), .unset] [(.int v196), (.ref b15)])) _
              refine ArF.ldB X193 hx hZ e193 f202 (i := an) hat (by have := (own_bd hdd htn (k := 4) (by decide) hc204); omega) (v := (own_l5 v18 v24 v30 v36 v42 an)) rfl (g := (mkF m 184 #[.val (.long l1), .second, .val (.int w1), .val (.int n1), .val (.int a1), .val (.int t1), .val (.ref b15), .val (.int (4 : Int32)), .val (.int v51), .val (.int v54), .val (.int v57), .val (.int v60), .val (.ref b177), .val (.int v196), .val (.int v199), .unset] [(.int v196), (.ref b15)])) rfl rfl (hb hby at_184) _ ?_
              show Steps p.tables e below (T193.setTop (mkF m 185 #[.val (.long l1), .second, .val (.int w1), .val (.int n1), .val (.int a1), .val (.int t1), .val (.ref b15), .val (.int (4 : Int32)), .val (.int v51), .val (.int v54), .val (.int v57), .val (.int v60), .val (.ref b177), .val (.int v196), .val (.int v199), .unset] [(.int (own_l5 v18 v24 v30 v36 v42 an))])) _
              refine XS.iload X193.here hx rfl (hb hby at_185) rfl ?_
              show Steps p.tables e below (T193.setTop (mkF m 187 #[.val (.long l1), .second, .val (.int w1), .val (.int n1), .val (.int a1), .val (.int t1), .val (.ref b15), .val (.int (4 : Int32)), .val (.int v51), .val (.int v54), .val (.int v57), .val (.int v60), .val (.ref b177), .val (.int v196), .val (.int v199), .unset] [(.int v51), (.int (own_l5 v18 v24 v30 v36 v42 an))])) _
              refine XS.icmpNo X193.here hx rfl (hb hby at_187) rfl (teq hc205).2 ?_
              show Steps p.tables e below (T193.setTop (mkF m 190 #[.val (.long l1), .second, .val (.int w1), .val (.int n1), .val (.int a1), .val (.int t1), .val (.ref b15), .val (.int (4 : Int32)), .val (.int v51), .val (.int v54), .val (.int v57), .val (.int v60), .val (.ref b177), .val (.int v196), .val (.int v199), .unset] [])) _
              refine XS.iload X193.here hx rfl (hb hby at_190) rfl ?_
              show Steps p.tables e below (T193.setTop (mkF m 192 #[.val (.long l1), .second, .val (.int w1), .val (.int n1), .val (.int a1), .val (.int t1), .val (.ref b15), .val (.int (4 : Int32)), .val (.int v51), .val (.int v54), .val (.int v57), .val (.int v60), .val (.ref b177), .val (.int v196), .val (.int v199), .unset] [(.int (4 : Int32))])) _
              refine XS.iconst X193.here hx rfl (hb hby at_192) ?_
              show Steps p.tables e below (T193.setTop (mkF m 193 #[.val (.long l1), .second, .val (.int w1), .val (.int n1), .val (.int a1), .val (.int t1), .val (.ref b15), .val (.int (4 : Int32)), .val (.int v51), .val (.int v54), .val (.int v57), .val (.int v60), .val (.ref b177), .val (.int v196), .val (.int v199), .unset] [(.int (2 : Int32)), (.int (4 : Int32))])) _
              refine XS.icmpNo X193.here hx rfl (hb hby at_193) rfl (flt (by decide)).1 ?_
              show Steps p.tables e below (T193.setTop (mkF m 196 #[.val (.long l1), .second, .val (.int w1), .val (.int n1), .val (.int a1), .val (.int t1), .val (.ref b15), .val (.int (4 : Int32)), .val (.int v51), .val (.int v54), .val (.int v57), .val (.int v60), .val (.ref b177), .val (.int v196), .val (.int v199), .unset] [])) _
              refine XS.aload X193.here hx rfl (hb hby at_196) rfl rfl ?_
              show Steps p.tables e below (T193.setTop (mkF m 198 #[.val (.long l1), .second, .val (.int w1), .val (.int n1), .val (.int a1), .val (.int t1), .val (.ref b15), .val (.int (4 : Int32)), .val (.int v51), .val (.int v54), .val (.int v57), .val (.int v60), .val (.ref b177), .val (.int v196), .val (.int v199), .unset] [(.ref b15)])) _
              refine XS.iload X193.here hx rfl (hb hby at_198) rfl ?_
              show Steps p.tables e below (T193.setTop (mkF m 200 #[.val (.long l1), .second, .val (.int w1), .val (.int n1), .val (.int a1), .val (.int t1), .val (.ref b15), .val (.int (4 : Int32)), .val (.int v51), .val (.int v54), .val (.int v57), .val (.int v60), .val (.ref b177), .val (.int v196), .val (.int v199), .unset] [(.int v196), (.ref b15)])) _
              refine XS.iconst X193.here hx rfl (hb hby at_200) ?_
              show Steps p.tables e below (T193.setTop (mkF m 201 #[.val (.long l1), .second, .val (.int w1), .val (.int n1), .val (.int a1), .val (.int t1), .val (.ref b15), .val (.int (4 : Int32)), .val (.int v51), .val (.int v54), .val (.int v57), .val (.int v60), .val (.ref b177), .val (.int v196), .val (.int v199), .unset] [(.int (1 : Int32)), (.int v196), (.ref b15)])) _
              refine XS.iadd X193.here hx rfl (hb hby at_201) rfl ?_
              show Steps p.tables e below (T193.setTop (mkF m 202 #[.val (.long l1), .second, .val (.int w1), .val (.int n1), .val (.int a1), .val (.int t1), .val (.ref b15), .val (.int (4 : Int32)), .val (.int v51), .val (.int v54), .val (.int v57), .val (.int v60), .val (.ref b177), .val (.int v196), .val (.int v199), .unset] [(.int (v196 + (1 : Int32))), (.ref b15)])) _
              refine ArF.ldB X193 hx hZ e193 f202 (i := (an + 1)) (own_plus hat (by omega) (i := 1) (by decide) (by omega)) (by have := (own_bd hdd htn (k := 4) (by decide) hc204); omega) (v := (own_l5 v18 v24 v30 v36 v42 (an + 1))) rfl (g := (mkF m 202 #[.val (.long l1), .second, .val (.int w1), .val (.int n1), .val (.int a1), .val (.int t1), .val (.ref b15), .val (.int (4 : Int32)), .val (.int v51), .val (.int v54), .val (.int v57), .val (.int v60), .val (.ref b177), .val (.int v196), .val (.int v199), .unset] [(.int (v196 + (1 : Int32))), (.ref b15)])) rfl rfl (hb hby at_202) _ ?_
              show Steps p.tables e below (T193.setTop (mkF m 203 #[.val (.long l1), .second, .val (.int w1), .val (.int n1), .val (.int a1), .val (.int t1), .val (.ref b15), .val (.int (4 : Int32)), .val (.int v51), .val (.int v54), .val (.int v57), .val (.int v60), .val (.ref b177), .val (.int v196), .val (.int v199), .unset] [(.int (own_l5 v18 v24 v30 v36 v42 (an + 1)))])) _
              refine XS.iload X193.here hx rfl (hb hby at_203) rfl ?_
              show Steps p.tables e below (T193.setTop (mkF m 205 #[.val (.long l1), .second, .val (.int w1), .val (.int n1), .val (.int a1), .val (.int t1), .val (.ref b15), .val (.int (4 : Int32)), .val (.int v51), .val (.int v54), .val (.int v57), .val (.int v60), .val (.ref b177), .val (.int v196), .val (.int v199), .unset] [(.int v54), (.int (own_l5 v18 v24 v30 v36 v42 (an + 1)))])) _
              refine XS.icmpNo X193.here hx rfl (hb hby at_205) rfl (teq hc206).2 ?_
              show Steps p.tables e below (T193.setTop (mkF m 208 #[.val (.long l1), .second, .val (.int w1), .val (.int n1), .val (.int a1), .val (.int t1), .val (.ref b15), .val (.int (4 : Int32)), .val (.int v51), .val (.int v54), .val (.int v57), .val (.int v60), .val (.ref b177), .val (.int v196), .val (.int v199), .unset] [])) _
              refine XS.iload X193.here hx rfl (hb hby at_208) rfl ?_
              show Steps p.tables e below (T193.setTop (mkF m 210 #[.val (.long l1), .second, .val (.int w1), .val (.int n1), .val (.int a1), .val (.int t1), .val (.ref b15), .val (.int (4 : Int32)), .val (.int v51), .val (.int v54), .val (.int v57), .val (.int v60), .val (.ref b177), .val (.int v196), .val (.int v199), .unset] [(.int (4 : Int32))])) _
              refine XS.iconst X193.here hx rfl (hb hby at_210) ?_
              show Steps p.tables e below (T193.setTop (mkF m 211 #[.val (.long l1), .second, .val (.int w1), .val (.int n1), .val (.int a1), .val (.int t1), .val (.ref b15), .val (.int (4 : Int32)), .val (.int v51), .val (.int v54), .val (.int v57), .val (.int v60), .val (.ref b177), .val (.int v196), .val (.int v199), .unset] [(.int (3 : Int32)), (.int (4 : Int32))])) _
              refine XS.icmpNo X193.here hx rfl (hb hby at_211) rfl (flt (by decide)).1 ?_
              show Steps p.tables e below (T193.setTop (mkF m 214 #[.val (.long l1), .second, .val (.int w1), .val (.int n1), .val (.int a1), .val (.int t1), .val (.ref b15), .val (.int (4 : Int32)), .val (.int v51), .val (.int v54), .val (.int v57), .val (.int v60), .val (.ref b177), .val (.int v196), .val (.int v199), .unset] [])) _
              refine XS.aload X193.here hx rfl (hb hby at_214) rfl rfl ?_
              show Steps p.tables e below (T193.setTop (mkF m 216 #[.val (.long l1), .second, .val (.int w1), .val (.int n1), .val (.int a1), .val (.int t1), .val (.ref b15), .val (.int (4 : Int32)), .val (.int v51), .val (.int v54), .val (.int v57), .val (.int v60), .val (.ref b177), .val (.int v196), .val (.int v199), .unset] [(.ref b15)])) _
              refine XS.iload X193.here hx rfl (hb hby at_216) rfl ?_
              show Steps p.tables e below (T193.setTop (mkF m 218 #[.val (.long l1), .second, .val (.int w1), .val (.int n1), .val (.int a1), .val (.int t1), .val (.ref b15), .val (.int (4 : Int32)), .val (.int v51), .val (.int v54), .val (.int v57), .val (.int v60), .val (.ref b177), .val (.int v196), .val (.int v199), .unset] [(.int v196), (.ref b15)])) _
              refine XS.iconst X193.here hx rfl (hb hby at_218) ?_
              show Steps p.tables e below (T193.setTop (mkF m 219 #[.val (.long l1), .second, .val (.int w1), .val (.int n1), .val (.int a1), .val (.int t1), .val (.ref b15), .val (.int (4 : Int32)), .val (.int v51), .val (.int v54), .val (.int v57), .val (.int v60), .val (.ref b177), .val (.int v196), .val (.int v199), .unset] [(.int (2 : Int32)), (.int v196), (.ref b15)])) _
              refine XS.iadd X193.here hx rfl (hb hby at_219) rfl ?_
              show Steps p.tables e below (T193.setTop (mkF m 220 #[.val (.long l1), .second, .val (.int w1), .val (.int n1), .val (.int a1), .val (.int t1), .val (.ref b15), .val (.int (4 : Int32)), .val (.int v51), .val (.int v54), .val (.int v57), .val (.int v60), .val (.ref b177), .val (.int v196), .val (.int v199), .unset] [(.int (v196 + (2 : Int32))), (.ref b15)])) _
              refine ArF.ldB X193 hx hZ e193 f202 (i := (an + 2)) (own_plus hat (by omega) (i := 2) (by decide) (by omega)) (by have := (own_bd hdd htn (k := 4) (by decide) hc204); omega) (v := (own_l5 v18 v24 v30 v36 v42 (an + 2))) rfl (g := (mkF m 220 #[.val (.long l1), .second, .val (.int w1), .val (.int n1), .val (.int a1), .val (.int t1), .val (.ref b15), .val (.int (4 : Int32)), .val (.int v51), .val (.int v54), .val (.int v57), .val (.int v60), .val (.ref b177), .val (.int v196), .val (.int v199), .unset] [(.int (v196 + (2 : Int32))), (.ref b15)])) rfl rfl (hb hby at_220) _ ?_
              show Steps p.tables e below (T193.setTop (mkF m 221 #[.val (.long l1), .second, .val (.int w1), .val (.int n1), .val (.int a1), .val (.int t1), .val (.ref b15), .val (.int (4 : Int32)), .val (.int v51), .val (.int v54), .val (.int v57), .val (.int v60), .val (.ref b177), .val (.int v196), .val (.int v199), .unset] [(.int (own_l5 v18 v24 v30 v36 v42 (an + 2)))])) _
              refine XS.iload X193.here hx rfl (hb hby at_221) rfl ?_
              show Steps p.tables e below (T193.setTop (mkF m 223 #[.val (.long l1), .second, .val (.int w1), .val (.int n1), .val (.int a1), .val (.int t1), .val (.ref b15), .val (.int (4 : Int32)), .val (.int v51), .val (.int v54), .val (.int v57), .val (.int v60), .val (.ref b177), .val (.int v196), .val (.int v199), .unset] [(.int v57), (.int (own_l5 v18 v24 v30 v36 v42 (an + 2)))])) _
              refine XS.icmpYes X193.here hx rfl (pc0 := 223) (pc' := 248) rfl (hb hby at_223) rfl (feq hc207).2 (by decide) (by decide) ?_
              show Steps p.tables e below (T193.setTop (mkF m 248 #[.val (.long l1), .second, .val (.int w1), .val (.int n1), .val (.int a1), .val (.int t1), .val (.ref b15), .val (.int (4 : Int32)), .val (.int v51), .val (.int v54), .val (.int v57), .val (.int v60), .val (.ref b177), .val (.int v196), .val (.int v199), .unset] [])) _
              refine XS.iconst X193.here hx rfl (hb hby at_248) ?_
              exact kt
          · simp only [if_neg hc204, if_pos hc205, if_neg hc206] at kt
            show Steps p.tables e below (T193.setTop (mkF m 171 #[.val (.long l1), .second, .val (.int w1), .val (.int n1), .val (.int a1), .val (.int t1), .val (.ref b15), .val (.int (4 : Int32)), .val (.int v51), .val (.int v54), .val (.int v57), .val (.int v60), .val (.ref b177), .val (.int v196), .val (.int v199), .unset] [(.int (v199 - v196)), (.int (4 : Int32))])) _
            refine XS.icmpNo X193.here hx rfl (hb hby at_171) rfl (flt hc204).2.2.1 ?_
            show Steps p.tables e below (T193.setTop (mkF m 174 #[.val (.long l1), .second, .val (.int w1), .val (.int n1), .val (.int a1), .val (.int t1), .val (.ref b15), .val (.int (4 : Int32)), .val (.int v51), .val (.int v54), .val (.int v57), .val (.int v60), .val (.ref b177), .val (.int v196), .val (.int v199), .unset] [])) _
            refine XS.iload X193.here hx rfl (hb hby at_174) rfl ?_
            show Steps p.tables e below (T193.setTop (mkF m 176 #[.val (.long l1), .second, .val (.int w1), .val (.int n1), .val (.int a1), .val (.int t1), .val (.ref b15), .val (.int (4 : Int32)), .val (.int v51), .val (.int v54), .val (.int v57), .val (.int v60), .val (.ref b177), .val (.int v196), .val (.int v199), .unset] [(.int (4 : Int32))])) _
            refine XS.iconst X193.here hx rfl (hb hby at_176) ?_
            show Steps p.tables e below (T193.setTop (mkF m 177 #[.val (.long l1), .second, .val (.int w1), .val (.int n1), .val (.int a1), .val (.int t1), .val (.ref b15), .val (.int (4 : Int32)), .val (.int v51), .val (.int v54), .val (.int v57), .val (.int v60), .val (.ref b177), .val (.int v196), .val (.int v199), .unset] [(.int (1 : Int32)), (.int (4 : Int32))])) _
            refine XS.icmpNo X193.here hx rfl (hb hby at_177) rfl (flt (by decide)).1 ?_
            show Steps p.tables e below (T193.setTop (mkF m 180 #[.val (.long l1), .second, .val (.int w1), .val (.int n1), .val (.int a1), .val (.int t1), .val (.ref b15), .val (.int (4 : Int32)), .val (.int v51), .val (.int v54), .val (.int v57), .val (.int v60), .val (.ref b177), .val (.int v196), .val (.int v199), .unset] [])) _
            refine XS.aload X193.here hx rfl (hb hby at_180) rfl rfl ?_
            show Steps p.tables e below (T193.setTop (mkF m 182 #[.val (.long l1), .second, .val (.int w1), .val (.int n1), .val (.int a1), .val (.int t1), .val (.ref b15), .val (.int (4 : Int32)), .val (.int v51), .val (.int v54), .val (.int v57), .val (.int v60), .val (.ref b177), .val (.int v196), .val (.int v199), .unset] [(.ref b15)])) _
            refine XS.iload X193.here hx rfl (hb hby at_182) rfl ?_
            show Steps p.tables e below (T193.setTop (mkF m 184 #[.val (.long l1), .second, .val (.int w1), .val (.int n1), .val (.int a1), .val (.int t1), .val (.ref b15), .val (.int (4 : Int32)), .val (.int v51), .val (.int v54), .val (.int v57), .val (.int v60), .val (.ref b177), .val (.int v196), .val (.int v199), .unset] [(.int v196), (.ref b15)])) _
            refine ArF.ldB X193 hx hZ e193 f202 (i := an) hat (by have := (own_bd hdd htn (k := 4) (by decide) hc204); omega) (v := (own_l5 v18 v24 v30 v36 v42 an)) rfl (g := (mkF m 184 #[.val (.long l1), .second, .val (.int w1), .val (.int n1), .val (.int a1), .val (.int t1), .val (.ref b15), .val (.int (4 : Int32)), .val (.int v51), .val (.int v54), .val (.int v57), .val (.int v60), .val (.ref b177), .val (.int v196), .val (.int v199), .unset] [(.int v196), (.ref b15)])) rfl rfl (hb hby at_184) _ ?_
            show Steps p.tables e below (T193.setTop (mkF m 185 #[.val (.long l1), .second, .val (.int w1), .val (.int n1), .val (.int a1), .val (.int t1), .val (.ref b15), .val (.int (4 : Int32)), .val (.int v51), .val (.int v54), .val (.int v57), .val (.int v60), .val (.ref b177), .val (.int v196), .val (.int v199), .unset] [(.int (own_l5 v18 v24 v30 v36 v42 an))])) _
            refine XS.iload X193.here hx rfl (hb hby at_185) rfl ?_
            show Steps p.tables e below (T193.setTop (mkF m 187 #[.val (.long l1), .second, .val (.int w1), .val (.int n1), .val (.int a1), .val (.int t1), .val (.ref b15), .val (.int (4 : Int32)), .val (.int v51), .val (.int v54), .val (.int v57), .val (.int v60), .val (.ref b177), .val (.int v196), .val (.int v199), .unset] [(.int v51), (.int (own_l5 v18 v24 v30 v36 v42 an))])) _
            refine XS.icmpNo X193.here hx rfl (hb hby at_187) rfl (teq hc205).2 ?_
            show Steps p.tables e below (T193.setTop (mkF m 190 #[.val (.long l1), .second, .val (.int w1), .val (.int n1), .val (.int a1), .val (.int t1), .val (.ref b15), .val (.int (4 : Int32)), .val (.int v51), .val (.int v54), .val (.int v57), .val (.int v60), .val (.ref b177), .val (.int v196), .val (.int v199), .unset] [])) _
            refine XS.iload X193.here hx rfl (hb hby at_190) rfl ?_
            show Steps p.tables e below (T193.setTop (mkF m 192 #[.val (.long l1), .second, .val (.int w1), .val (.int n1), .val (.int a1), .val (.int t1), .val (.ref b15), .val (.int (4 : Int32)), .val (.int v51), .val (.int v54), .val (.int v57), .val (.int v60), .val (.ref b177), .val (.int v196), .val (.int v199), .unset] [(.int (4 : Int32))])) _
            refine XS.iconst X193.here hx rfl (hb hby at_192) ?_
            show Steps p.tables e below (T193.setTop (mkF m 193 #[.val (.long l1), .second, .val (.int w1), .val (.int n1), .val (.int a1), .val (.int t1), .val (.ref b15), .val (.int (4 : Int32)), .val (.int v51), .val (.int v54), .val (.int v57), .val (.int v60), .val (.ref b177), .val (.int v196), .val (.int v199), .unset] [(.int (2 : Int32)), (.int (4 : Int32))])) _
            refine XS.icmpNo X193.here hx rfl (hb hby at_193) rfl (flt (by decide)).1 ?_
            show Steps p.tables e below (T193.setTop (mkF m 196 #[.val (.long l1), .second, .val (.int w1), .val (.int n1), .val (.int a1), .val (.int t1), .val (.ref b15), .val (.int (4 : Int32)), .val (.int v51), .val (.int v54), .val (.int v57), .val (.int v60), .val (.ref b177), .val (.int v196), .val (.int v199), .unset] [])) _
            refine XS.aload X193.here hx rfl (hb hby at_196) rfl rfl ?_
            show Steps p.tables e below (T193.setTop (mkF m 198 #[.val (.long l1), .second, .val (.int w1), .val (.int n1), .val (.int a1), .val (.int t1), .val (.ref b15), .val (.int (4 : Int32)), .val (.int v51), .val (.int v54), .val (.int v57), .val (.int v60), .val (.ref b177), .val (.int v196), .val (.int v199), .unset] [(.ref b15)])) _
            refine XS.iload X193.here hx rfl (hb hby at_198) rfl ?_
            show Steps p.tables e below (T193.setTop (mkF m 200 #[.val (.long l1), .second, .val (.int w1), .val (.int n1), .val (.int a1), .val (.int t1), .val (.ref b15), .val (.int (4 : Int32)), .val (.int v51), .val (.int v54), .val (.int v57), .val (.int v60), .val (.ref b177), .val (.int v196), .val (.int v199), .unset] [(.int v196), (.ref b15)])) _
            refine XS.iconst X193.here hx rfl (hb hby at_200) ?_
            show Steps p.tables e below (T193.setTop (mkF m 201 #[.val (.long l1), .second, .val (.int w1), .val (.int n1), .val (.int a1), .val (.int t1), .val (.ref b15), .val (.int (4 : Int32)), .val (.int v51), .val (.int v54), .val (.int v57), .val (.int v60), .val (.ref b177), .val (.int v196), .val (.int v199), .unset] [(.int (1 : Int32)), (.int v196), (.ref b15)])) _
            refine XS.iadd X193.here hx rfl (hb hby at_201) rfl ?_
            show Steps p.tables e below (T193.setTop (mkF m 202 #[.val (.long l1), .second, .val (.int w1), .val (.int n1), .val (.int a1), .val (.int t1), .val (.ref b15), .val (.int (4 : Int32)), .val (.int v51), .val (.int v54), .val (.int v57), .val (.int v60), .val (.ref b177), .val (.int v196), .val (.int v199), .unset] [(.int (v196 + (1 : Int32))), (.ref b15)])) _
            refine ArF.ldB X193 hx hZ e193 f202 (i := (an + 1)) (own_plus hat (by omega) (i := 1) (by decide) (by omega)) (by have := (own_bd hdd htn (k := 4) (by decide) hc204); omega) (v := (own_l5 v18 v24 v30 v36 v42 (an + 1))) rfl (g := (mkF m 202 #[.val (.long l1), .second, .val (.int w1), .val (.int n1), .val (.int a1), .val (.int t1), .val (.ref b15), .val (.int (4 : Int32)), .val (.int v51), .val (.int v54), .val (.int v57), .val (.int v60), .val (.ref b177), .val (.int v196), .val (.int v199), .unset] [(.int (v196 + (1 : Int32))), (.ref b15)])) rfl rfl (hb hby at_202) _ ?_
            show Steps p.tables e below (T193.setTop (mkF m 203 #[.val (.long l1), .second, .val (.int w1), .val (.int n1), .val (.int a1), .val (.int t1), .val (.ref b15), .val (.int (4 : Int32)), .val (.int v51), .val (.int v54), .val (.int v57), .val (.int v60), .val (.ref b177), .val (.int v196), .val (.int v199), .unset] [(.int (own_l5 v18 v24 v30 v36 v42 (an + 1)))])) _
            refine XS.iload X193.here hx rfl (hb hby at_203) rfl ?_
            show Steps p.tables e below (T193.setTop (mkF m 205 #[.val (.long l1), .second, .val (.int w1), .val (.int n1), .val (.int a1), .val (.int t1), .val (.ref b15), .val (.int (4 : Int32)), .val (.int v51), .val (.int v54), .val (.int v57), .val (.int v60), .val (.ref b177), .val (.int v196), .val (.int v199), .unset] [(.int v54), (.int (own_l5 v18 v24 v30 v36 v42 (an + 1)))])) _
            refine XS.icmpYes X193.here hx rfl (pc0 := 205) (pc' := 248) rfl (hb hby at_205) rfl (feq hc206).2 (by decide) (by decide) ?_
            show Steps p.tables e below (T193.setTop (mkF m 248 #[.val (.long l1), .second, .val (.int w1), .val (.int n1), .val (.int a1), .val (.int t1), .val (.ref b15), .val (.int (4 : Int32)), .val (.int v51), .val (.int v54), .val (.int v57), .val (.int v60), .val (.ref b177), .val (.int v196), .val (.int v199), .unset] [])) _
            refine XS.iconst X193.here hx rfl (hb hby at_248) ?_
            exact kt
        · simp only [if_neg hc204, if_neg hc205] at kt
          show Steps p.tables e below (T193.setTop (mkF m 171 #[.val (.long l1), .second, .val (.int w1), .val (.int n1), .val (.int a1), .val (.int t1), .val (.ref b15), .val (.int (4 : Int32)), .val (.int v51), .val (.int v54), .val (.int v57), .val (.int v60), .val (.ref b177), .val (.int v196), .val (.int v199), .unset] [(.int (v199 - v196)), (.int (4 : Int32))])) _
          refine XS.icmpNo X193.here hx rfl (hb hby at_171) rfl (flt hc204).2.2.1 ?_
          show Steps p.tables e below (T193.setTop (mkF m 174 #[.val (.long l1), .second, .val (.int w1), .val (.int n1), .val (.int a1), .val (.int t1), .val (.ref b15), .val (.int (4 : Int32)), .val (.int v51), .val (.int v54), .val (.int v57), .val (.int v60), .val (.ref b177), .val (.int v196), .val (.int v199), .unset] [])) _
          refine XS.iload X193.here hx rfl (hb hby at_174) rfl ?_
          show Steps p.tables e below (T193.setTop (mkF m 176 #[.val (.long l1), .second, .val (.int w1), .val (.int n1), .val (.int a1), .val (.int t1), .val (.ref b15), .val (.int (4 : Int32)), .val (.int v51), .val (.int v54), .val (.int v57), .val (.int v60), .val (.ref b177), .val (.int v196), .val (.int v199), .unset] [(.int (4 : Int32))])) _
          refine XS.iconst X193.here hx rfl (hb hby at_176) ?_
          show Steps p.tables e below (T193.setTop (mkF m 177 #[.val (.long l1), .second, .val (.int w1), .val (.int n1), .val (.int a1), .val (.int t1), .val (.ref b15), .val (.int (4 : Int32)), .val (.int v51), .val (.int v54), .val (.int v57), .val (.int v60), .val (.ref b177), .val (.int v196), .val (.int v199), .unset] [(.int (1 : Int32)), (.int (4 : Int32))])) _
          refine XS.icmpNo X193.here hx rfl (hb hby at_177) rfl (flt (by decide)).1 ?_
          show Steps p.tables e below (T193.setTop (mkF m 180 #[.val (.long l1), .second, .val (.int w1), .val (.int n1), .val (.int a1), .val (.int t1), .val (.ref b15), .val (.int (4 : Int32)), .val (.int v51), .val (.int v54), .val (.int v57), .val (.int v60), .val (.ref b177), .val (.int v196), .val (.int v199), .unset] [])) _
          refine XS.aload X193.here hx rfl (hb hby at_180) rfl rfl ?_
          show Steps p.tables e below (T193.setTop (mkF m 182 #[.val (.long l1), .second, .val (.int w1), .val (.int n1), .val (.int a1), .val (.int t1), .val (.ref b15), .val (.int (4 : Int32)), .val (.int v51), .val (.int v54), .val (.int v57), .val (.int v60), .val (.ref b177), .val (.int v196), .val (.int v199), .unset] [(.ref b15)])) _
          refine XS.iload X193.here hx rfl (hb hby at_182) rfl ?_
          show Steps p.tables e below (T193.setTop (mkF m 184 #[.val (.long l1), .second, .val (.int w1), .val (.int n1), .val (.int a1), .val (.int t1), .val (.ref b15), .val (.int (4 : Int32)), .val (.int v51), .val (.int v54), .val (.int v57), .val (.int v60), .val (.ref b177), .val (.int v196), .val (.int v199), .unset] [(.int v196), (.ref b15)])) _
          refine ArF.ldB X193 hx hZ e193 f202 (i := an) hat (by have := (own_bd hdd htn (k := 4) (by decide) hc204); omega) (v := (own_l5 v18 v24 v30 v36 v42 an)) rfl (g := (mkF m 184 #[.val (.long l1), .second, .val (.int w1), .val (.int n1), .val (.int a1), .val (.int t1), .val (.ref b15), .val (.int (4 : Int32)), .val (.int v51), .val (.int v54), .val (.int v57), .val (.int v60), .val (.ref b177), .val (.int v196), .val (.int v199), .unset] [(.int v196), (.ref b15)])) rfl rfl (hb hby at_184) _ ?_
          show Steps p.tables e below (T193.setTop (mkF m 185 #[.val (.long l1), .second, .val (.int w1), .val (.int n1), .val (.int a1), .val (.int t1), .val (.ref b15), .val (.int (4 : Int32)), .val (.int v51), .val (.int v54), .val (.int v57), .val (.int v60), .val (.ref b177), .val (.int v196), .val (.int v199), .unset] [(.int (own_l5 v18 v24 v30 v36 v42 an))])) _
          refine XS.iload X193.here hx rfl (hb hby at_185) rfl ?_
          show Steps p.tables e below (T193.setTop (mkF m 187 #[.val (.long l1), .second, .val (.int w1), .val (.int n1), .val (.int a1), .val (.int t1), .val (.ref b15), .val (.int (4 : Int32)), .val (.int v51), .val (.int v54), .val (.int v57), .val (.int v60), .val (.ref b177), .val (.int v196), .val (.int v199), .unset] [(.int v51), (.int (own_l5 v18 v24 v30 v36 v42 an))])) _
          refine XS.icmpYes X193.here hx rfl (pc0 := 187) (pc' := 248) rfl (hb hby at_187) rfl (feq hc205).2 (by decide) (by decide) ?_
          show Steps p.tables e below (T193.setTop (mkF m 248 #[.val (.long l1), .second, .val (.int w1), .val (.int n1), .val (.int a1), .val (.int t1), .val (.ref b15), .val (.int (4 : Int32)), .val (.int v51), .val (.int v54), .val (.int v57), .val (.int v60), .val (.ref b177), .val (.int v196), .val (.int v199), .unset] [])) _
          refine XS.iconst X193.here hx rfl (hb hby at_248) ?_
          exact kt
    have hva : ArF Z h193 b177 .byte 4 (fun q => (.int ((own_l4 v51 v54 v57 v60) q))) := V193.congr (fun i hi => by rcases (show i = 0 ∨ i = 1 ∨ i = 2 ∨ i = 3 by omega) with rfl | rfl | rfl | rfl <;> simp [own_l4, nbv51, nbv54, nbv57, nbv60])
    have S211 : ∀ t, Steps p.tables e below (T193.setTop (mkF m 259 #[.val (.long l1), .second, .val (.int w1), .val (.int n1), .val (.int a1), .val (.int t1), .val (.ref b15), .val (.int (4 : Int32)), .val (.int v51), .val (.int v54), .val (.int v57), .val (.int v60), .val (.ref b177), .val (.int v196), .val (.int v199), .val (.int v210)] [(.ref b177), (.int v199), (.int v196), (.ref b15)])) t → Steps p.tables e below (T193.setTop (mkF m 249 #[.val (.long l1), .second, .val (.int w1), .val (.int n1), .val (.int a1), .val (.int t1), .val (.ref b15), .val (.int (4 : Int32)), .val (.int v51), .val (.int v54), .val (.int v57), .val (.int v60), .val (.ref b177), .val (.int v196), .val (.int v199), .unset] [(.int v210)])) t := by
      intro t kt
      show Steps p.tables e below (T193.setTop (mkF m 249 #[.val (.long l1), .second, .val (.int w1), .val (.int n1), .val (.int a1), .val (.int t1), .val (.ref b15), .val (.int (4 : Int32)), .val (.int v51), .val (.int v54), .val (.int v57), .val (.int v60), .val (.ref b177), .val (.int v196), .val (.int v199), .unset] [(.int v210)])) _
      refine XS.istore X193.here hx rfl (hb hby at_249) rfl (l' := #[.val (.long l1), .second, .val (.int w1), .val (.int n1), .val (.int a1), .val (.int t1), .val (.ref b15), .val (.int (4 : Int32)), .val (.int v51), .val (.int v54), .val (.int v57), .val (.int v60), .val (.ref b177), .val (.int v196), .val (.int v199), .val (.int v210)]) rfl ?_
      show Steps p.tables e below (T193.setTop (mkF m 251 #[.val (.long l1), .second, .val (.int w1), .val (.int n1), .val (.int a1), .val (.int t1), .val (.ref b15), .val (.int (4 : Int32)), .val (.int v51), .val (.int v54), .val (.int v57), .val (.int v60), .val (.ref b177), .val (.int v196), .val (.int v199), .val (.int v210)] [])) _
      refine XS.aload X193.here hx rfl (hb hby at_251) rfl rfl ?_
      show Steps p.tables e below (T193.setTop (mkF m 253 #[.val (.long l1), .second, .val (.int w1), .val (.int n1), .val (.int a1), .val (.int t1), .val (.ref b15), .val (.int (4 : Int32)), .val (.int v51), .val (.int v54), .val (.int v57), .val (.int v60), .val (.ref b177), .val (.int v196), .val (.int v199), .val (.int v210)] [(.ref b15)])) _
      refine XS.iload X193.here hx rfl (hb hby at_253) rfl ?_
      show Steps p.tables e below (T193.setTop (mkF m 255 #[.val (.long l1), .second, .val (.int w1), .val (.int n1), .val (.int a1), .val (.int t1), .val (.ref b15), .val (.int (4 : Int32)), .val (.int v51), .val (.int v54), .val (.int v57), .val (.int v60), .val (.ref b177), .val (.int v196), .val (.int v199), .val (.int v210)] [(.int v196), (.ref b15)])) _
      refine XS.iload X193.here hx rfl (hb hby at_255) rfl ?_
      show Steps p.tables e below (T193.setTop (mkF m 257 #[.val (.long l1), .second, .val (.int w1), .val (.int n1), .val (.int a1), .val (.int t1), .val (.ref b15), .val (.int (4 : Int32)), .val (.int v51), .val (.int v54), .val (.int v57), .val (.int v60), .val (.ref b177), .val (.int v196), .val (.int v199), .val (.int v210)] [(.int v199), (.int v196), (.ref b15)])) _
      refine XS.aload X193.here hx rfl (hb hby at_257) rfl rfl ?_
      exact kt
    obtain ⟨_, _, ⟨T212, L212, k212, n212⟩, -, X212, ⟨Lc212, hQ212, l212, y212, z212⟩, st212⟩ := Jvm.LawKit.callS X193 hx (y := (⟨"com/example/joinery/joinery/Bytes", "startsWith", "([BII[B)Z"⟩ : MethodName)) hown (mvT hZ (hw _ (List.mem_of_getElem? (i := 2) rfl))) (mvT hZ (hw _ (List.mem_of_getElem? (i := 3) rfl))) (mvT hZ (hw _ (List.mem_of_getElem? (i := 4) rfl))) (mvT hZ (hw _ (List.mem_of_getElem? (i := 5) rfl))) (by decide) (backOf (W := 0) (rm1 l Z a0 hw [] b15 v196 v199 b177 an tn 4 (own_l5 v18 v24 v30 v36 v42) (own_l4 v51 v54 v57 v60) h193 n0 z194 f202 hva hat hdd htn (by decide)) hZ (hw _ (List.mem_of_getElem? (i := 5) rfl)) (hw _ (List.mem_of_getElem? (i := 4) rfl)) (by decide) (by decide)) (g := (mkF m 259 #[.val (.long l1), .second, .val (.int w1), .val (.int n1), .val (.int a1), .val (.int t1), .val (.ref b15), .val (.int (4 : Int32)), .val (.int v51), .val (.int v54), .val (.int v57), .val (.int v60), .val (.ref b177), .val (.int v196), .val (.int v199), .val (.int v210)] [(.ref b177), (.int v199), (.int v196), (.ref b15)])) rfl (by rw [hml]; rfl) (argsL := [(.ref b15), (.int v196), (.int v199), (.ref b177)]) (rest := []) (lenOf pd_0 rfl) rfl (by show 2 * 0 + _ ≤ _; exact Nat.le_of_eq rfl) (hb hby at_259) (fun _ _ => ⟨rfl, e193, (by decide : 2 + 0 ≤ _), (by decide : 9 + 0 ≤ _)⟩)
    dsimp only [Pt.U, Pt.locs, Pt.cells, Pt.slots] at X212 l212 y212 z212 st212 hQ212
    subst l212 y212 z212
    obtain ⟨rfl, N212q, e212⟩ := hQ212
    have N212 := Fr.app N195 N212q
    have S213 : ∀ t, Steps p.tables e below (T212.setTop (mkF m 272 #[.val (.long l1), .second, .val (.int w1), .val (.int n1), .val (.int a1), .val (.int t1), .val (.ref b15), .val (.int (4 : Int32)), .val (.int v51), .val (.int v54), .val (.int v57), .val (.int v60), .val (.ref b177), .val (.int v196), .val (.int v199), .val (.int v210)] [(.int (1 : Int32))])) t → Steps p.tables e below (T212.setTop (mkF m 262 #[.val (.long l1), .second, .val (.int w1), .val (.int n1), .val (.int a1), .val (.int t1), .val (.ref b15), .val (.int (4 : Int32)), .val (.int v51), .val (.int v54), .val (.int v57), .val (.int v60), .val (.ref b177), .val (.int v196), .val (.int v199), .val (.int v210)] [(.int (own_sw (own_l5 v18 v24 v30 v36 v42) (own_l4 v51 v54 v57 v60) an (v199 - v196) 4))])) t := by
      intro t kt
      show Steps p.tables e below (T212.setTop (mkF m 262 #[.val (.long l1), .second, .val (.int w1), .val (.int n1), .val (.int a1), .val (.int t1), .val (.ref b15), .val (.int (4 : Int32)), .val (.int v51), .val (.int v54), .val (.int v57), .val (.int v60), .val (.ref b177), .val (.int v196), .val (.int v199), .val (.int v210)] [(.int (own_sw (own_l5 v18 v24 v30 v36 v42) (own_l4 v51 v54 v57 v60) an (v199 - v196) 4))])) _
      refine XS.iload X212.here hx rfl (hb hby at_262) rfl ?_
      show Steps p.tables e below (T212.setTop (mkF m 264 #[.val (.long l1), .second, .val (.int w1), .val (.int n1), .val (.int a1), .val (.int t1), .val (.ref b15), .val (.int (4 : Int32)), .val (.int v51), .val (.int v54), .val (.int v57), .val (.int v60), .val (.ref b177), .val (.int v196), .val (.int v199), .val (.int v210)] [(.int v210), (.int (own_sw (own_l5 v18 v24 v30 v36 v42) (own_l4 v51 v54 v57 v60) an (v199 - v196) 4))])) _
      refine XS.icmpNo X212.here hx rfl (hb hby at_264) rfl (teq (show (own_sw (own_l5 v18 v24 v30 v36 v42) (own_l4 v51 v54 v57 v60) an (v199 - v196) 4) = v210 from by rw [hv210]; rfl)).2 ?_
      show Steps p.tables e below (T212.setTop (mkF m 267 #[.val (.long l1), .second, .val (.int w1), .val (.int n1), .val (.int a1), .val (.int t1), .val (.ref b15), .val (.int (4 : Int32)), .val (.int v51), .val (.int v54), .val (.int v57), .val (.int v60), .val (.ref b177), .val (.int v196), .val (.int v199), .val (.int v210)] [])) _
      refine XS.iconst X212.here hx rfl (hb hby at_267) ?_
      show Steps p.tables e below (T212.setTop (mkF m 268 #[.val (.long l1), .second, .val (.int w1), .val (.int n1), .val (.int a1), .val (.int t1), .val (.ref b15), .val (.int (4 : Int32)), .val (.int v51), .val (.int v54), .val (.int v57), .val (.int v60), .val (.ref b177), .val (.int v196), .val (.int v199), .val (.int v210)] [(.int (1 : Int32))])) _
      refine XS.goto X212.here hx rfl (pc0 := 268) (pc' := 272) rfl (hb hby at_268) (by decide) (by decide) ?_
      exact kt
    have C214 : ∀ t, Steps p.tables e below (T212.setTop (mkF m 272 #[.val (.long l1), .second, .val (.int w1), .val (.int n1), .val (.int a1), .val (.int t1), .val (.ref b15), .val (.int (4 : Int32)), .val (.int v51), .val (.int v54), .val (.int v57), .val (.int v60), .val (.ref b177), .val (.int v196), .val (.int v199), .val (.int v210)] [(.int (1 : Int32))])) t → Steps p.tables e below (s₁.setTop (mkF m 0 #[.val (.long l1), .second, .val (.int w1), .val (.int n1), .val (.int a1), .val (.int t1), .unset, .unset, .unset, .unset, .unset, .unset, .unset, .unset, .unset, .unset] [])) t := (fun t k => (C64 t (S175 t (S176 t (st177 t (S180 t (st181 t (S184 t (st185 t (S188 t (st189 t (S192 t (st193 t (S197 t (S198 t (S200 t (S201 t (S203 t (S209 t (S211 t (st212 t (S213 t k))))))))))))))))))))))
    obtain ⟨fs, hr, hrun, hended, hW, hsame⟩ := X212.leave (v := some (.int (1 : Int32))) (fun h => by rw [Bd.returns] at h; cases h)
    refine ⟨_, _, pre0 _ (C214 _ ?_), hrun, hended, _, _, rfl, ?_, ⟨_, rfl⟩, hW, hsame.mono (by decide) (by decide)⟩
    · exact retN X212 hx (t := .boolean) Bd.returns (by simp) (hb hby at_272) hr
    · show Q_rm0 Z l1 w1 n1 a1 t1 h0 n0 _ T212.heap _
      rw [e212]
      exact ⟨rfl, N212⟩
set_option maxRecDepth 65536 in
set_option maxHeartbeats 40000000 in
theorem comes_1 {Post : Tables → Env → Array Value → State → Outcome → State → Prop} (hpost : ∀ tb e args s v u, (limb_1_1.after args s (.returned v) u = true ∧ limb_1_2.after args s (.returned v) u = true ∧ True) → FrameEnd s (.returned v) u (Jvm.fieldLocs frame_1_writes args s ++ Jvm.arrayLocs frame_1_arrays args s ++ Jvm.staticLocs frame_1_statics s) 16 128 → Post tb e args s (.returned v) u) :
    ArmFor flags0 classFile x code maxLocals ret World_1 tables_1 room_1 Calls_1 rest_1 Pre_1 Post := by
  intro l hfl _ _ p e ha hc hk s m args below hf hA hF happ hP
  obtain ⟨hcalls, hrest, hpre⟩ := hP
  obtain ⟨-, -, -, hnamed, -, -, -, hat⟩ := (Spec.applies_iff hf).mp happ
  obtain ⟨hg, hn⟩ := and_e (Cond.before_iff.mp (show (Jvm.Cond.and given_1 narrow_1).before args s = true from hpre))
  obtain ⟨gg1, gg2⟩ := and_e hg
  obtain ⟨gg3, gg4⟩ := and_e gg2
  obtain ⟨gg5, gg6⟩ := and_e gg4
  obtain ⟨gg7, gg8⟩ := and_e gg6
  obtain ⟨gg9, gg10⟩ := and_e gg8
  obtain ⟨w0, w1, w2, w3, w4, rfl⟩ : ∃ w0 w1 w2 w3 w4 : Value, args = #[w0, w1, w2, w3, w4] := by
    have hs : args.size = 5 := by simpa [Cond.value, given_1] using gg1
    obtain ⟨L⟩ := args
    match L, hs with
    | [w0, w1, w2, w3, w4], _ => exact ⟨w0, w1, w2, w3, w4, rfl⟩
  have hw := fun d (hd : d ∈ tables_1) => atoms_spec (ws := Jvm.Cond.code x code maxLocals ret :: tables_1) hat d (List.mem_cons_of_mem _ hd)
  have hfit : Fit s := fun {y c} hc i hi => by
    obtain ⟨ha, rfl⟩ := Array.getElem?_eq_some_iff.mp hc
    have q := List.all_eq_true.mp ((Array.all_eq_true_iff_forall_mem.mp hF) _ (Array.getElem_mem ha)) i (List.mem_range.mpr hi)
    simpa [Array.getElem?_eq_getElem hi] using q
  obtain ⟨i0, ei0⟩ := isL_v gg3
  obtain rfl : w0 = (.long i0) := Option.some.inj ei0
  obtain ⟨i1, ei1⟩ := is_v gg5
  obtain rfl : w1 = (.int i1) := Option.some.inj ei1
  obtain ⟨i2, ei2⟩ := is_v gg7
  obtain rfl : w2 = (.int i2) := Option.some.inj ei2
  obtain ⟨i3, ei3⟩ := is_v gg9
  obtain rfl : w3 = (.int i3) := Option.some.inj ei3
  obtain ⟨i4, ei4⟩ := is_v gg10
  obtain rfl : w4 = (.int i4) := Option.some.inj ei4
  obtain ⟨n, o, h1, h2, h3, _, L, rfl, ⟨rfl, N⟩, hq⟩ := rm0 l s _ hw tables_1 i0 i1 i2 i3 i4 s.heap s.heap.size (Nat.le_refl _)  p e ha hc hk s m _ below hf ((Spec.applies_iff_loose hf).mp happ).1 ⟨rfl, State.Warmed39.refl s, rfl⟩ trivial
  refine ⟨n, _, h1, h2, h3, hpost _ _ _ _ _ _ ⟨Cond.after_iff.mpr rfl, Cond.after_iff.mpr (eq_i res_at (Term.int_eval (1)) rfl), trivial⟩ ⟨hq.1, hq.2.1, (hq.2.2.sift fun y hy => Or.inr (N y hy)).mono (by decide) (by decide)⟩⟩
theorem main_1_1 : Claimed_1_1 := comes_1 fun _ _ _ _ _ _ h hF => ⟨h.1, hF⟩
theorem main_1_2 : Claimed_1_2 := comes_1 fun _ _ _ _ _ _ h hF => ⟨h.2.1, hF⟩
end Jvm.Pilot.@@N@@
namespace Jvm.Pilot.@@N@@
open Jvm Jvm.ClassFile Sem Op Lib Jvm.Free Jvm.Stand Jvm.Pilot.@@N@@.Jvm.D
/-! MADE BY PROGRAM (witnessworld.py) out of the Statement's table words and the real class files: 9 classes; the members and pool entries that the words name. The judged class is class 1, her method 1. -/
namespace start1
open Jvm.ClassFile
def u (s : String) : CpInfo := .utf8 (stringToUtf16 s)
/-- a pool by its gaps: so many unusable entries, then the entry; so many at the end -/
def gap : Nat → List CpInfo → List CpInfo
  | 0, r => r
  | n + 1, r => .unusable :: gap n r
def poolList (es : List (Nat × CpInfo)) (last : Nat) : List CpInfo := es.foldr (fun e r => gap e.1 (e.2 :: r)) (gap last [])
def pool (es : List (Nat × CpInfo)) (last : Nat) : Array CpInfo := ⟨poolList es last⟩
def fileOf (pool : Array CpInfo) (this : Nat) (attrs : Array Attribute := #[]) (ms : Array MethodInfo := #[]) (fl : Nat := 33) (sup : Nat := 0) (ifs : Array Nat := #[]) (fds : Array FieldInfo := #[]) : ClassFile where
  minorVersion := 0
  majorVersion := 65
  constantPool := pool
  accessFlags := fl
  thisClass := this
  superClass := sup
  interfaces := ifs
  fields := fds
  methods := ms
  attributes := attrs
def plain (name : String) (sup : Option ClassId) : Class where
  name := name
  kind := .ordinary
  loader := none
  accessFlags := 33
  super := sup
  interfaces := #[]
  cf := none
  fields := #[]
  methods := #[]
  instanceTypes := #[]
  staticTypes := #[]
  resolved := #[]
  callSites := []
  init := .initialized
  statics := none
  mirror := none

def pool0 : Array CpInfo := pool [(5, u "<init>"), (0, u "()V"), (1, .class_ 10), (1, u "java/lang/Object")] 113

def k0m0 : Method := { name := "<init>", desc := "()V", sig := { parameters := [], returnType := none }, accessFlags := 1, code := none }
/-- java/lang/Object -/
def k0 : Class := { plain "java/lang/Object" none with
  accessFlags := 33
  interfaces := #[]
  cf := some (fileOf pool0 8 #[] #[{ accessFlags := 1, nameIndex := 5, descriptorIndex := 6, attributes := #[] }] 33 0 #[] #[])
  fields := #[]
  methods := #[k0m0]
  instanceTypes := #[]
  staticTypes := #[]
  resolved := Array.replicate 124 none
  statics := none }

def pool1 : Array CpInfo := pool [(2, .class_ 4), (1, u "java/lang/Object"), (0, u "<init>"), (0, u "()V"), (0, .integer 2147483647), (0, .methodref 9 10), (0, .class_ 11), (0, .nameAndType 12 13), (0, u "com/example/joinery/joinery/Bytes"), (0, u "startsWith"), (0, u "([BII[B)Z"), (0, .class_ 15), (0, u "com/example/joinery/joinery/BytesStartsWithPinLaw"), (2, u "law"), (0, u "(JIIII)Z")] 5

def k1m0 : Method := { name := "<init>", desc := "()V", sig := { parameters := [], returnType := none }, accessFlags := 1, code := none }
def k1c1 : Code := { maxStack := 5, maxLocals := 16, code := code, exceptionTable := #[], attributes := #[] }
def k1m1 : Method := { name := "law", desc := "(JIIII)Z", sig := { parameters := [.long, .int, .int, .int, .int], returnType := some .boolean }, accessFlags := 9, code := some k1c1 }
/-- com/example/joinery/joinery/BytesStartsWithPinLaw -/
def k1 : Class := { plain "com/example/joinery/joinery/BytesStartsWithPinLaw" (some 0) with
  accessFlags := 49
  interfaces := #[]
  cf := some (fileOf pool1 14 #[] #[{ accessFlags := 1, nameIndex := 5, descriptorIndex := 6, attributes := #[] }, { accessFlags := 9, nameIndex := 18, descriptorIndex := 19, attributes := #[] }] 49 2 #[] #[])
  fields := #[]
  methods := #[k1m0, k1m1]
  instanceTypes := #[]
  staticTypes := #[]
  resolved := Array.replicate 25 none
  statics := none }

def pool2 : Array CpInfo := pool [(4, .class_ 6), (1, u "java/lang/Object"), (9, .class_ 18), (1, u "com/example/joinery/joinery/Bytes"), (0, u "array"), (0, u "[B"), (2, u "length"), (0, u "I"), (51, u "WORDS"), (0, u "Ljava/lang/invoke/VarHandle;"), (21, .class_ 100), (0, u "com/example/joinery/joinery/Bytes$ArrayLimitError"), (19, u "MAX_LENGTH"), (2, u "SHORT"), (23, u "startsWith"), (0, u "([BII[B)Z")] 7

def k2c0 : Code := { maxStack := 3, maxLocals := 5, code := prog_1_method_15_code, exceptionTable := #[], attributes := #[] }
def k2m0 : Method := { name := "startsWith", desc := "([BII[B)Z", sig := { parameters := [(.array .byte), .int, .int, (.array .byte)], returnType := some .boolean }, accessFlags := 8, code := some k2c0 }
/-- com/example/joinery/joinery/Bytes -/
def k2 : Class := { plain "com/example/joinery/joinery/Bytes" (some 0) with
  accessFlags := 48
  interfaces := #[]
  cf := some (fileOf pool2 16 #[.nestMembers #[99]] #[{ accessFlags := 8, nameIndex := 147, descriptorIndex := 148, attributes := #[] }] 48 4 #[] #[{ accessFlags := 24, nameIndex := 120, descriptorIndex := 24, attributes := #[] }, { accessFlags := 26, nameIndex := 123, descriptorIndex := 24, attributes := #[] }, { accessFlags := 26, nameIndex := 76, descriptorIndex := 77, attributes := #[] }, { accessFlags := 2, nameIndex := 19, descriptorIndex := 20, attributes := #[] }, { accessFlags := 2, nameIndex := 23, descriptorIndex := 24, attributes := #[] }])
  fields := #[{ name := "MAX_LENGTH", type := .int, accessFlags := 24, slot := 0, constantValue := 0 }, { name := "SHORT", type := .int, accessFlags := 26, slot := 1, constantValue := 0 }, { name := "WORDS", type := (.object "java/lang/invoke/VarHandle"), accessFlags := 26, slot := 2, constantValue := 0 }, { name := "array", type := (.array .byte), accessFlags := 2, slot := 0, constantValue := 0 }, { name := "length", type := .int, accessFlags := 2, slot := 1, constantValue := 0 }]
  methods := #[k2m0]
  instanceTypes := #[(.array .byte), .int]
  staticTypes := #[.int, .int, (.object "java/lang/invoke/VarHandle")]
  resolved := Array.replicate 156 none
  statics := none }

def pool3 : Array CpInfo := pool [(1, u "java/lang/Cloneable"), (0, .class_ 1), (0, u "java/lang/Object"), (0, .class_ 3)] 3

/-- java/lang/Cloneable -/
def k3 : Class := { plain "java/lang/Cloneable" (some 0) with
  accessFlags := 1537
  interfaces := #[]
  cf := some (fileOf pool3 2 #[] #[] 1537 4 #[] #[])
  fields := #[]
  methods := #[]
  instanceTypes := #[]
  staticTypes := #[]
  resolved := Array.replicate 8 none
  statics := none }

def pool4 : Array CpInfo := pool [(1, u "java/io/Serializable"), (0, .class_ 1), (0, u "java/lang/Object"), (0, .class_ 3)] 3

/-- java/io/Serializable -/
def k4 : Class := { plain "java/io/Serializable" (some 0) with
  accessFlags := 1537
  interfaces := #[]
  cf := some (fileOf pool4 2 #[] #[] 1537 4 #[] #[])
  fields := #[]
  methods := #[]
  instanceTypes := #[]
  staticTypes := #[]
  resolved := Array.replicate 8 none
  statics := none }

/-- the primitive byte -/
def k5 : Class := { plain "byte" none with kind := .primitive 'B', accessFlags := 0x411 }
/-- [B -/
def k6 : Class := { plain "[B" (some 0) with kind := .array 5 .byte, interfaces := #[3, 4], accessFlags := 1041 }

/-- the primitive int -/
def k7 : Class := { plain "int" none with kind := .primitive 'I', accessFlags := 0x411 }
/-- [I -/
def k8 : Class := { plain "[I" (some 0) with kind := .array 7 .int, interfaces := #[3, 4], accessFlags := 1041 }

def heap : Heap := #[]
def classes : Array Class := #[k0, k1, k2, k3, k4, k5, k6, k7, k8]
def interned : List (Array UInt16 × Addr) := []
def slotsUsed : Nat := 0
def theMethod : MethodId := ⟨1, 1⟩
def args0 : Array Value := #[.long 77, .int 7, .int 2, .int 1, .int 3]
def aboutOver (below : List Frame) : State where
  vm := { classes := classes, interned := interned.toArray }
  heap := heap
  slotsUsed := slotsUsed
  threads := #[{ frames := .invoking theMethod args0 :: below }]
def below0 : List Frame := [.native { method := ⟨0, 0⟩, args := #[] }]
def about1 : State := aboutOver below0
def p0 : Program := .bare "" "" ""
def e0 : Env := launch0.env 0 0 0
theorem w_frames : about1.frames = Frame.invoking theMethod args0 :: below0 := rfl
set_option maxRecDepth 65536 in
theorem w_args : argsFit about1.vm theMethod args0 = true := by decide +kernel
set_option maxRecDepth 65536 in
theorem w_heap : heapFits about1 = true := by decide +kernel
set_option maxRecDepth 65536 in
theorem w_runnable : about1.curStatus? = some .runnable := by decide +kernel
set_option maxRecDepth 65536 in
theorem w_alone : about1.alone = true := by decide +kernel
set_option maxRecDepth 65536 in
theorem w_named : about1.methodNamed? x = some theMethod := by decide +kernel
set_option maxRecDepth 65536 in
theorem w_hears : about1.hears theMethod below0 = true := by decide +kernel
set_option maxRecDepth 65536 in
theorem w_ripe : about1.ripe theMethod args0 below0 = true := by decide +kernel
theorem w_running : about1.status = .running := rfl
set_option maxRecDepth 65536 in
theorem w_room : about1.hasRoom e0.platform room_1 = true :=
  launch0.hasRoom_least _ room_1 (by decide +kernel) (by decide +kernel) (by decide +kernel) (by decide +kernel) (by decide +kernel) (by decide +kernel)
theorem allAtoms_all (ts : List Jvm.Cond) (a : Array Jvm.Value) (st : Jvm.State) : (allAtoms ts).before a st = ts.all (fun c => c.before a st) := by
  induction ts with
  | nil => rfl
  | cons c t ih =>
    show (Jvm.Cond.and c (allAtoms t)).before a st = _
    rw [Jvm.Cond.before_and, ih, List.all_cons]
def words1 : List Jvm.Cond := Jvm.Cond.code x code maxLocals ret :: tables_1
/-- a 'code' word, met by the world's own term for the bytes: nothing is compared byte by byte -/
theorem code_word {y : MethodName} {bytes : ByteArray} {mx : Nat} {rt : Option FieldType} {a : Array Value} {s : State} {m : MethodId} {meth : Method} {c : Code} (h1 : s.methodNamed? y = some m) (h2 : s.vm.method? m = some meth) (h3 : meth.code = some c) (h4 : c.code = bytes)
    (h5 : (c.maxLocals == mx && c.exceptionTable.isEmpty && decide (c.maxStack ≤ mostOperands) && decide (meth.sig.returnType = rt) && !meth.locks && decide (parseMethodDescriptor y.desc = some meth.sig)) = true) : (Jvm.Cond.code y bytes mx rt).before a s = true := by
  simp only [Bool.and_eq_true, beq_iff_eq, Bool.not_eq_true', decide_eq_true_eq] at h5
  obtain ⟨⟨⟨⟨⟨g1, g2⟩, g3⟩, g4⟩, g5⟩, g6⟩ := h5
  simp [Cond.before, Cond.holds, Cond.value, h1, h2, h3, h4, g1, g2, g3, g4, g5, g6]
def isCode : Jvm.Cond → Bool
  | .code _ _ _ _ => true
  | _ => false
theorem all_split {L : List Jvm.Cond} {P : Jvm.Cond → Bool} (h1 : L.all (fun c => isCode c || P c) = true) (h2 : ∀ c ∈ L.filter isCode, P c = true) : L.all P = true := by
  refine List.all_eq_true.mpr fun c hc => ?_
  have h := List.all_eq_true.mp h1 c hc
  rcases Bool.eq_false_or_eq_true (isCode c) with hi | hi
  · exact h2 c (List.mem_filter.mpr ⟨hc, hi⟩)
  · simpa [hi] using h
set_option maxRecDepth 65536 in
theorem w_c0 : (Jvm.Cond.code x code maxLocals ret).before args0 about1 = true := code_word (m := ⟨1, 1⟩) (meth := k1m1) (c := k1c1) (by decide +kernel) rfl rfl rfl (by decide +kernel)
set_option maxRecDepth 65536 in
theorem w_c1 : (Jvm.Cond.code ({ cls := "com/example/joinery/joinery/Bytes", name := "startsWith", desc := "([BII[B)Z" } : Jvm.MethodName) prog_1_method_15_code (5 : Nat) (Option.some Jvm.ClassFile.FieldType.boolean)).before args0 about1 = true := code_word (m := ⟨2, 0⟩) (meth := k2m0) (c := k2c0) (by decide +kernel) rfl rfl rfl (by decide +kernel)
def codes1 : List Jvm.Cond := [Jvm.Cond.code x code maxLocals ret, Jvm.Cond.code ({ cls := "com/example/joinery/joinery/Bytes", name := "startsWith", desc := "([BII[B)Z" } : Jvm.MethodName) prog_1_method_15_code (5 : Nat) (Option.some Jvm.ClassFile.FieldType.boolean)]
set_option maxRecDepth 65536 in
theorem codes_eq : words1.filter isCode = codes1 := rfl
theorem w_codes : ∀ c ∈ words1.filter isCode, c.before args0 about1 = true := by
  rw [codes_eq]
  intro c hc
  simp only [codes1, List.mem_cons, List.not_mem_nil, or_false] at hc
  rcases hc with rfl | rfl
  · exact w_c0
  · exact w_c1
set_option maxRecDepth 65536 in
theorem w_t1 : words1.all (fun c => isCode c || c.before args0 about1) = true := by decide +kernel
theorem w_tables : (allAtoms (Jvm.Cond.code x code maxLocals ret :: tables_1)).before args0 about1 = true := by
  rw [allAtoms_all]
  show words1.all (fun c => c.before args0 about1) = true
  refine all_split ?_ w_codes
  rw [w_t1]
set_option maxRecDepth 65536 in
theorem w_case : (Jvm.Cond.and given_1 narrow_1).before args0 about1 = true := by decide +kernel
theorem w_applies : (headSpec (Jvm.Cond.code x code maxLocals ret :: tables_1) room_1).applies x e0.platform about1 = true :=
  (Spec.applies_iff w_frames).mpr ⟨w_running, w_runnable, w_alone, w_named, w_hears, w_ripe, w_room, w_tables⟩
theorem atStart : AtStart classFile x code maxLocals ret World_1 tables_1 room_1 Calls_1 rest_1 Pre_1 launch0 p0 e0 about1 theMethod args0 below0 :=
  ⟨lists_1, trivial, launch0.admits_env _ _ _, launch0.least_env, fairChoices_fair.cas, fairChoices_fair.clock, w_frames, w_args, w_heap, w_applies, trivial, trivial, w_case⟩
end start1
theorem witness_1 : WitnessClaimed_1 := ⟨start1.p0, start1.e0, start1.about1, start1.theMethod, start1.args0, start1.below0, start1.atStart⟩
end Jvm.Pilot.@@N@@
